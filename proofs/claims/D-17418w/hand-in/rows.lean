section
-- ===== PART A: goes FIRST, ahead of the names: the tables' words, and 'selects' of the private methods out of them =====
/-- a private method of a class that the tables say can be made, by its rows of tables_1 -/
def lw_okq (q : MethodName × Nat) : Prop := (q.1.cls ≠ "java/lang/invoke/MethodHandle" ∧ q.1.cls ≠ "java/lang/invoke/VarHandle") ∧ Cond.instantiable q.1.cls q.2 ∈ tables_1 ∧ Cond.privateMethod q.1 ∈ tables_1 ∧ Cond.instanceMethod q.1 ∈ tables_1
set_option maxRecDepth 100000
theorem lw_t1 {w : Cond} (h : w ∈ tables_1_1) : w ∈ tables_1 := List.mem_append_left _ h
theorem lw_t2 {w : Cond} (h : w ∈ tables_1_2) : w ∈ tables_1 := List.mem_append_right _ h
theorem lw_p0 : lw_okq (⟨"TeaDesk", "run", "(ZI)V"⟩, 3) := ⟨⟨by decide +kernel, by decide +kernel⟩, lw_t1 (List.mem_of_getElem? (i := 16) rfl), lw_t1 (List.mem_of_getElem? (i := 50) rfl), lw_t1 (List.mem_of_getElem? (i := 51) rfl)⟩
theorem lw_p1 : lw_okq (⟨"java/lang/Throwable", "fillInStackTrace", "(I)Ljava/lang/Throwable;"⟩, 6) := ⟨⟨by decide +kernel, by decide +kernel⟩, lw_t1 (List.mem_of_getElem? (i := 174) rfl), lw_t1 (List.mem_of_getElem? (i := 172) rfl), lw_t1 (List.mem_of_getElem? (i := 173) rfl)⟩
theorem lw_p2 : lw_okq (⟨"TEAEngine", "setKey", "([B)V"⟩, 6) := ⟨⟨by decide +kernel, by decide +kernel⟩, lw_t1 (List.mem_of_getElem? (i := 57) rfl), lw_t1 (List.mem_of_getElem? (i := 207) rfl), lw_t1 (List.mem_of_getElem? (i := 208) rfl)⟩
theorem lw_p3 : lw_okq (⟨"TEAEngine", "bytesToInt", "([BI)I"⟩, 6) := ⟨⟨by decide +kernel, by decide +kernel⟩, lw_t1 (List.mem_of_getElem? (i := 57) rfl), lw_t1 (List.mem_of_getElem? (i := 212) rfl), lw_t1 (List.mem_of_getElem? (i := 213) rfl)⟩
theorem lw_p4 : lw_okq (⟨"XTEAEngine", "setKey", "([B)V"⟩, 5) := ⟨⟨by decide +kernel, by decide +kernel⟩, lw_t1 (List.mem_of_getElem? (i := 82) rfl), lw_t1 (List.mem_of_getElem? (i := 227) rfl), lw_t1 (List.mem_of_getElem? (i := 228) rfl)⟩
theorem lw_p5 : lw_okq (⟨"XTEAEngine", "bytesToInt", "([BI)I"⟩, 5) := ⟨⟨by decide +kernel, by decide +kernel⟩, lw_t1 (List.mem_of_getElem? (i := 82) rfl), lw_t1 (List.mem_of_getElem? (i := 232) rfl), lw_t1 (List.mem_of_getElem? (i := 233) rfl)⟩
theorem lw_p6 : lw_okq (⟨"TEAEngine", "encryptBlock", "([BI[BI)I"⟩, 6) := ⟨⟨by decide +kernel, by decide +kernel⟩, lw_t1 (List.mem_of_getElem? (i := 57) rfl), lw_t2 (List.mem_of_getElem? (i := 58) rfl), lw_t2 (List.mem_of_getElem? (i := 59) rfl)⟩
theorem lw_p7 : lw_okq (⟨"TEAEngine", "unpackInt", "(I[BI)V"⟩, 6) := ⟨⟨by decide +kernel, by decide +kernel⟩, lw_t1 (List.mem_of_getElem? (i := 57) rfl), lw_t2 (List.mem_of_getElem? (i := 63) rfl), lw_t2 (List.mem_of_getElem? (i := 64) rfl)⟩
theorem lw_p8 : lw_okq (⟨"TEAEngine", "decryptBlock", "([BI[BI)I"⟩, 6) := ⟨⟨by decide +kernel, by decide +kernel⟩, lw_t1 (List.mem_of_getElem? (i := 57) rfl), lw_t2 (List.mem_of_getElem? (i := 67) rfl), lw_t2 (List.mem_of_getElem? (i := 68) rfl)⟩
theorem lw_p9 : lw_okq (⟨"XTEAEngine", "encryptBlock", "([BI[BI)I"⟩, 5) := ⟨⟨by decide +kernel, by decide +kernel⟩, lw_t1 (List.mem_of_getElem? (i := 82) rfl), lw_t2 (List.mem_of_getElem? (i := 85) rfl), lw_t2 (List.mem_of_getElem? (i := 86) rfl)⟩
theorem lw_p10 : lw_okq (⟨"XTEAEngine", "unpackInt", "(I[BI)V"⟩, 5) := ⟨⟨by decide +kernel, by decide +kernel⟩, lw_t1 (List.mem_of_getElem? (i := 82) rfl), lw_t2 (List.mem_of_getElem? (i := 89) rfl), lw_t2 (List.mem_of_getElem? (i := 90) rfl)⟩
theorem lw_p11 : lw_okq (⟨"XTEAEngine", "decryptBlock", "([BI[BI)I"⟩, 5) := ⟨⟨by decide +kernel, by decide +kernel⟩, lw_t1 (List.mem_of_getElem? (i := 82) rfl), lw_t2 (List.mem_of_getElem? (i := 93) rfl), lw_t2 (List.mem_of_getElem? (i := 94) rfl)⟩
theorem lw_p12 : lw_okq (⟨"TeaDeskModel", "locks", "(Z)V"⟩, 5) := ⟨⟨by decide +kernel, by decide +kernel⟩, lw_t2 (List.mem_of_getElem? (i := 109) rfl), lw_t2 (List.mem_of_getElem? (i := 143) rfl), lw_t2 (List.mem_of_getElem? (i := 144) rfl)⟩
theorem lw_p13 : lw_okq (⟨"TeaDeskModel", "xtea", "(III)I"⟩, 5) := ⟨⟨by decide +kernel, by decide +kernel⟩, lw_t2 (List.mem_of_getElem? (i := 109) rfl), lw_t2 (List.mem_of_getElem? (i := 148) rfl), lw_t2 (List.mem_of_getElem? (i := 149) rfl)⟩
theorem lw_p14 : lw_okq (⟨"TeaDeskModel", "tea", "(III)I"⟩, 5) := ⟨⟨by decide +kernel, by decide +kernel⟩, lw_t2 (List.mem_of_getElem? (i := 109) rfl), lw_t2 (List.mem_of_getElem? (i := 152) rfl), lw_t2 (List.mem_of_getElem? (i := 153) rfl)⟩
theorem lw_p15 : lw_okq (⟨"TeaDeskModel", "opens", "(Z)V"⟩, 5) := ⟨⟨by decide +kernel, by decide +kernel⟩, lw_t2 (List.mem_of_getElem? (i := 109) rfl), lw_t2 (List.mem_of_getElem? (i := 160) rfl), lw_t2 (List.mem_of_getElem? (i := 161) rfl)⟩
def lw_privs_1 : List (MethodName × Nat) := [(⟨"TeaDesk", "run", "(ZI)V"⟩, 3), (⟨"java/lang/Throwable", "fillInStackTrace", "(I)Ljava/lang/Throwable;"⟩, 6), (⟨"TEAEngine", "setKey", "([B)V"⟩, 6), (⟨"TEAEngine", "bytesToInt", "([BI)I"⟩, 6), (⟨"XTEAEngine", "setKey", "([B)V"⟩, 5), (⟨"XTEAEngine", "bytesToInt", "([BI)I"⟩, 5), (⟨"TEAEngine", "encryptBlock", "([BI[BI)I"⟩, 6), (⟨"TEAEngine", "unpackInt", "(I[BI)V"⟩, 6), (⟨"TEAEngine", "decryptBlock", "([BI[BI)I"⟩, 6), (⟨"XTEAEngine", "encryptBlock", "([BI[BI)I"⟩, 5), (⟨"XTEAEngine", "unpackInt", "(I[BI)V"⟩, 5), (⟨"XTEAEngine", "decryptBlock", "([BI[BI)I"⟩, 5), (⟨"TeaDeskModel", "locks", "(Z)V"⟩, 5), (⟨"TeaDeskModel", "xtea", "(III)I"⟩, 5), (⟨"TeaDeskModel", "tea", "(III)I"⟩, 5), (⟨"TeaDeskModel", "opens", "(Z)V"⟩, 5)]
theorem lw_r1 : ∀ q ∈ lw_privs_1, lw_okq q := List.forall_mem_cons.mpr ⟨lw_p0, List.forall_mem_cons.mpr ⟨lw_p1, List.forall_mem_cons.mpr ⟨lw_p2, List.forall_mem_cons.mpr ⟨lw_p3, List.forall_mem_cons.mpr ⟨lw_p4, List.forall_mem_cons.mpr ⟨lw_p5, List.forall_mem_cons.mpr ⟨lw_p6, List.forall_mem_cons.mpr ⟨lw_p7, List.forall_mem_cons.mpr ⟨lw_p8, List.forall_mem_cons.mpr ⟨lw_p9, List.forall_mem_cons.mpr ⟨lw_p10, List.forall_mem_cons.mpr ⟨lw_p11, List.forall_mem_cons.mpr ⟨lw_p12, List.forall_mem_cons.mpr ⟨lw_p13, List.forall_mem_cons.mpr ⟨lw_p14, List.forall_mem_cons.mpr ⟨lw_p15, fun _ h => absurd h List.not_mem_nil⟩⟩⟩⟩⟩⟩⟩⟩⟩⟩⟩⟩⟩⟩⟩⟩
def lw_privs : List (MethodName × Nat) := lw_privs_1
def lw_tbl : List Cond := k2_sels lw_privs ++ tables_1
theorem lw_privs_ok : ∀ q ∈ lw_privs, lw_okq q := lw_r1
-- ===== ONE list of words for every method: the tables' words that hold all through a run =====
def lw_all : List Cond := lw_tbl.filter goodWord
/-- a word of the tables by its place: claim/WORDS.tsv -/
theorem lw_w {w : Cond} (i : Nat) (h : lw_tbl[i]? = some w) (g : goodWord w = true) : w ∈ lw_all := List.mem_filter.mpr ⟨List.mem_of_getElem? h, g⟩
theorem lw_all_tbl {w : Cond} (h : w ∈ lw_all) : w ∈ lw_tbl := (List.mem_filter.mp h).1
theorem lw_self : GoodIn lw_all lw_all := fun w h => ⟨h, good_of_word (List.mem_filter.mp h).2⟩
/-- a class's field words, by their places -/
theorem lw_in (ws : List Cond) (ps : List Nat) (hp : ws = ps.filterMap (fun i => lw_tbl[i]?)) (hg : ws.all goodWord = true) : ∀ w ∈ ws, w ∈ lw_all := by
  intro w h
  have h1 := List.all_eq_true.mp hg w h
  rw [hp] at h
  obtain ⟨i, -, hi⟩ := List.mem_filterMap.mp h
  exact lw_w i hi h1
/-- the words of a contract for the method y with code b, L locals, answer r -/
abbrev ws_ (y : MethodName) (b : ByteArray) (L : Nat) (r : Option FieldType) : List Cond := Cond.code y b L r :: lw_all
theorem lw_meth {y : MethodName} {b : ByteArray} {L : Nat} {r : Option FieldType} (h : Cond.code y b L r ∈ lw_all) : GoodIn lw_all (ws_ y b L r) := by
  intro w hw
  rcases List.mem_cons.mp hw with e | e
  · rw [e]
    exact lw_self _ h
  · exact lw_self _ e
theorem lw_app {a c : List Cond} (ha : ∀ w ∈ a, w ∈ lw_all) (hc : GoodIn lw_all c) : GoodIn lw_all (a ++ c) := by
  intro w hw
  rcases List.mem_append.mp hw with e | e
  · exact lw_self w (ha w e)
  · exact hc w e
/-- what a call through an object asks: cwV n hts (lw_V ..) -/
theorem lw_V {own : String} {idx : Nat} {C : String} {y : MethodName} {b : ByteArray} {L : Nat} {r : Option FieldType} (h1 : Cond.methodLink own idx y ∈ lw_all) (h2 : Cond.instanceMethod y ∈ lw_all) (h3 : Cond.selects C y y ∈ lw_all) (h4 : Cond.initialized C ∈ lw_all) (h5 : Cond.code y b L r ∈ lw_all) : GoodIn lw_all (wsV own idx C y (ws_ y b L r)) := by
  refine lw_app ?_ (lw_meth h5)
  intro w hw
  simp only [List.mem_cons, List.not_mem_nil, or_false] at hw
  rcases hw with e | e | e | e
  · rw [e]; exact h1
  · rw [e]; exact h2
  · rw [e]; exact h3
  · rw [e]; exact h4
/-- what a static call asks: va_cwS n hts (lw_S ..) -/
theorem lw_S {own : String} {idx : Nat} {y : MethodName} {b : ByteArray} {L : Nat} {r : Option FieldType} (h1 : Cond.methodLink own idx y ∈ lw_all) (h2 : Cond.static y ∈ lw_all) (h3 : Cond.initialized y.cls ∈ lw_all) (h4 : Cond.code y b L r ∈ lw_all) : GoodIn lw_all (va_wsS own idx y (ws_ y b L r)) := by
  refine lw_app ?_ (lw_meth h4)
  intro w hw
  simp only [List.mem_cons, List.not_mem_nil, or_false] at hw
  rcases hw with e | e | e
  · rw [e]; exact h1
  · rw [e]; exact h2
  · rw [e]; exact h3
/-- the words of a contract for a method WITH HANDLERS (hh: its table) -/
abbrev wsW_ (y : MethodName) (b : ByteArray) (L : Nat) (r : Option FieldType) (hh : List (Nat × Nat × Nat × Nat)) : List Cond := Cond.codeWith y b L r hh :: lw_all
theorem lw_methW {y : MethodName} {b : ByteArray} {L : Nat} {r : Option FieldType} {hh : List (Nat × Nat × Nat × Nat)} (h : Cond.codeWith y b L r hh ∈ lw_all) : GoodIn lw_all (wsW_ y b L r hh) := by
  intro w hw
  rcases List.mem_cons.mp hw with e | e
  · rw [e]
    exact lw_self _ h
  · exact lw_self _ e
/-- any list of words by their places (lw_in), good -/
theorem lw_good {ws : List Cond} (h : ∀ w ∈ ws, w ∈ lw_all) : GoodIn lw_all ws := fun w hw => lw_self w (h w hw)
/-- what a call of a method with handlers asks: vx_cwVW n hts (lw_VW ..), vx_cwSW n hts (lw_SW ..) -/
theorem lw_VW {own : String} {idx : Nat} {C : String} {y : MethodName} {b : ByteArray} {L : Nat} {r : Option FieldType} {hh : List (Nat × Nat × Nat × Nat)} (h1 : Cond.methodLink own idx y ∈ lw_all) (h2 : Cond.instanceMethod y ∈ lw_all) (h3 : Cond.selects C y y ∈ lw_all) (h4 : Cond.initialized C ∈ lw_all) (h5 : Cond.codeWith y b L r hh ∈ lw_all) : GoodIn lw_all (wsV own idx C y (wsW_ y b L r hh)) := by
  refine lw_app ?_ (lw_methW h5)
  intro w hw
  simp only [List.mem_cons, List.not_mem_nil, or_false] at hw
  rcases hw with e | e | e | e
  · rw [e]; exact h1
  · rw [e]; exact h2
  · rw [e]; exact h3
  · rw [e]; exact h4
theorem lw_SW {own : String} {idx : Nat} {y : MethodName} {b : ByteArray} {L : Nat} {r : Option FieldType} {hh : List (Nat × Nat × Nat × Nat)} (h1 : Cond.methodLink own idx y ∈ lw_all) (h2 : Cond.static y ∈ lw_all) (h3 : Cond.initialized y.cls ∈ lw_all) (h4 : Cond.codeWith y b L r hh ∈ lw_all) : GoodIn lw_all (va_wsS own idx y (wsW_ y b L r hh)) := by
  refine lw_app ?_ (lw_methW h4)
  intro w hw
  simp only [List.mem_cons, List.not_mem_nil, or_false] at hw
  rcases hw with e | e | e
  · rw [e]; exact h1
  · rw [e]; exact h2
  · rw [e]; exact h3
/-- a word by its place in its run of the tables -/
theorem lw_at {r : List Cond} (hr : ∀ w ∈ r, w ∈ lw_tbl) {w : Cond} (i : Nat) (h : r[i]? = some w) : w ∈ lw_tbl := hr w (List.mem_of_getElem? h)
theorem lw_g {w : Cond} (h : w ∈ lw_tbl) (g : goodWord w = true) : w ∈ lw_all := List.mem_filter.mpr ⟨h, g⟩
theorem lw_ms : ∀ w ∈ k2_sels lw_privs, w ∈ lw_tbl := fun w h => show w ∈ k2_sels lw_privs ++ tables_1 from List.mem_append_left _ h
theorem lw_m1 : ∀ w ∈ tables_1_1, w ∈ lw_tbl := fun w h => show w ∈ k2_sels lw_privs ++ tables_1 from List.mem_append_right (k2_sels lw_privs) (show w ∈ tables_1 from List.mem_append_left _ h)
theorem lw_m2 : ∀ w ∈ tables_1_2, w ∈ lw_tbl := fun w h => show w ∈ k2_sels lw_privs ++ tables_1 from List.mem_append_right (k2_sels lw_privs) (show w ∈ tables_1 from List.mem_append_right _ h)
theorem qs0 : (Cond.selects "TeaDesk" ⟨"TeaDesk", "run", "(ZI)V"⟩ ⟨"TeaDesk", "run", "(ZI)V"⟩) ∈ lw_all := lw_g (lw_at lw_ms 0 rfl) rfl
theorem qs1 : (Cond.selects "java/lang/Throwable" ⟨"java/lang/Throwable", "fillInStackTrace", "(I)Ljava/lang/Throwable;"⟩ ⟨"java/lang/Throwable", "fillInStackTrace", "(I)Ljava/lang/Throwable;"⟩) ∈ lw_all := lw_g (lw_at lw_ms 1 rfl) rfl
theorem qs2 : (Cond.selects "TEAEngine" ⟨"TEAEngine", "setKey", "([B)V"⟩ ⟨"TEAEngine", "setKey", "([B)V"⟩) ∈ lw_all := lw_g (lw_at lw_ms 2 rfl) rfl
theorem qs3 : (Cond.selects "TEAEngine" ⟨"TEAEngine", "bytesToInt", "([BI)I"⟩ ⟨"TEAEngine", "bytesToInt", "([BI)I"⟩) ∈ lw_all := lw_g (lw_at lw_ms 3 rfl) rfl
theorem qs4 : (Cond.selects "XTEAEngine" ⟨"XTEAEngine", "setKey", "([B)V"⟩ ⟨"XTEAEngine", "setKey", "([B)V"⟩) ∈ lw_all := lw_g (lw_at lw_ms 4 rfl) rfl
theorem qs5 : (Cond.selects "XTEAEngine" ⟨"XTEAEngine", "bytesToInt", "([BI)I"⟩ ⟨"XTEAEngine", "bytesToInt", "([BI)I"⟩) ∈ lw_all := lw_g (lw_at lw_ms 5 rfl) rfl
theorem qs6 : (Cond.selects "TEAEngine" ⟨"TEAEngine", "encryptBlock", "([BI[BI)I"⟩ ⟨"TEAEngine", "encryptBlock", "([BI[BI)I"⟩) ∈ lw_all := lw_g (lw_at lw_ms 6 rfl) rfl
theorem qs7 : (Cond.selects "TEAEngine" ⟨"TEAEngine", "unpackInt", "(I[BI)V"⟩ ⟨"TEAEngine", "unpackInt", "(I[BI)V"⟩) ∈ lw_all := lw_g (lw_at lw_ms 7 rfl) rfl
theorem qs8 : (Cond.selects "TEAEngine" ⟨"TEAEngine", "decryptBlock", "([BI[BI)I"⟩ ⟨"TEAEngine", "decryptBlock", "([BI[BI)I"⟩) ∈ lw_all := lw_g (lw_at lw_ms 8 rfl) rfl
theorem qs9 : (Cond.selects "XTEAEngine" ⟨"XTEAEngine", "encryptBlock", "([BI[BI)I"⟩ ⟨"XTEAEngine", "encryptBlock", "([BI[BI)I"⟩) ∈ lw_all := lw_g (lw_at lw_ms 9 rfl) rfl
theorem qs10 : (Cond.selects "XTEAEngine" ⟨"XTEAEngine", "unpackInt", "(I[BI)V"⟩ ⟨"XTEAEngine", "unpackInt", "(I[BI)V"⟩) ∈ lw_all := lw_g (lw_at lw_ms 10 rfl) rfl
theorem qs11 : (Cond.selects "XTEAEngine" ⟨"XTEAEngine", "decryptBlock", "([BI[BI)I"⟩ ⟨"XTEAEngine", "decryptBlock", "([BI[BI)I"⟩) ∈ lw_all := lw_g (lw_at lw_ms 11 rfl) rfl
theorem qs12 : (Cond.selects "TeaDeskModel" ⟨"TeaDeskModel", "locks", "(Z)V"⟩ ⟨"TeaDeskModel", "locks", "(Z)V"⟩) ∈ lw_all := lw_g (lw_at lw_ms 12 rfl) rfl
theorem qs13 : (Cond.selects "TeaDeskModel" ⟨"TeaDeskModel", "xtea", "(III)I"⟩ ⟨"TeaDeskModel", "xtea", "(III)I"⟩) ∈ lw_all := lw_g (lw_at lw_ms 13 rfl) rfl
theorem qs14 : (Cond.selects "TeaDeskModel" ⟨"TeaDeskModel", "tea", "(III)I"⟩ ⟨"TeaDeskModel", "tea", "(III)I"⟩) ∈ lw_all := lw_g (lw_at lw_ms 14 rfl) rfl
theorem qs15 : (Cond.selects "TeaDeskModel" ⟨"TeaDeskModel", "opens", "(Z)V"⟩ ⟨"TeaDeskModel", "opens", "(Z)V"⟩) ∈ lw_all := lw_g (lw_at lw_ms 15 rfl) rfl
end
section
set_option maxRecDepth 100000
/-- the code has just these bytes from pc on -/
def DkAt (code : ByteArray) (pc : Nat) (bs : List UInt8) : Prop := ∀ (j : Nat) (b : UInt8), bs[j]? = some b → code.data.toList[pc + j]? = some b
/-- the bytes at pc, read off the code itself -/
theorem dk_by {code : ByteArray} {pc : Nat} {bs : List UInt8} (h : (code.data.toList.drop pc).take bs.length = bs) : DkAt code pc bs := by
  intro j b e
  have h2 : j < bs.length := (List.getElem?_eq_some_iff.mp e).1
  rw [← h, List.getElem?_take, if_pos h2, List.getElem?_drop] at e
  exact e
theorem dk_u1 {A : ByteArray} {p : Nat} {b : UInt8} (h : A.data.toList[p]? = some b) : (Reader.u1 : Reader DecodeError Nat) A p = .ok (b.toNat, p + 1) := by
  obtain ⟨h1, h2⟩ := List.getElem?_eq_some_iff.mp h
  have h3 : p < A.size := by simpa using h1
  have h4 : A[p]'h3 = b := h2
  have e : (Reader.u1 : Reader DecodeError Nat) A p = (if h : p < A.size then .ok (A[p].toNat, p + 1) else .error (HasTruncated.truncated p)) := by
    show (do if h : p < A.size then do set (p + 1); Pure.pure A[p].toNat else MonadExcept.throw (HasTruncated.truncated p) : Reader DecodeError Nat) A p = _
    by_cases hi : p < A.size
    · rw [dif_pos hi, dif_pos hi]; rfl
    · rw [dif_neg hi, dif_neg hi]; rfl
  rw [e, dif_pos h3, h4]
theorem dk_bind {α β : Type} {r : Reader DecodeError α} {f : α → Reader DecodeError β} {A : ByteArray} {p s : Nat} {a : α} (h : r A p = .ok (a, s)) : (r >>= f) A p = f a A s := by
  show (do let (a, s) ← r A p; f a A s : Except DecodeError (β × Nat)) = _
  rw [h]
  rfl
theorem dk_map {α β : Type} {r : Reader DecodeError α} {g : α → β} {A : ByteArray} {p s : Nat} {a : α} (h : r A p = .ok (a, s)) : (g <$> r) A p = .ok (g a, s) := by
  show (do let (a, s) ← r A p; .ok (g a, s) : Except DecodeError (β × Nat)) = _
  rw [h]
  rfl
theorem dk_u2 {A : ByteArray} {p : Nat} {a b : UInt8} (h : A.data.toList[p]? = some a) (h2 : A.data.toList[p + 1]? = some b) : (Reader.u2 : Reader DecodeError Nat) A p = .ok (a.toNat * 256 + b.toNat, p + 2) := by
  show (Reader.u1 >>= fun hi => Reader.u1 >>= fun lo => Pure.pure (hi * 256 + lo) : Reader DecodeError Nat) A p = _
  rw [dk_bind (dk_u1 h), dk_bind (dk_u1 h2)]
  rfl
theorem dk_of {code : ByteArray} {pc n : Nat} {i : Instr} (h : Decoder.instr pc code pc = .ok (i, pc + n)) : decode code pc = .ok (i, n) := by
  have e : decode code pc = (match Decoder.instr pc code pc with | .error x => .error x | .ok (j, s) => .ok (j, s - pc)) := by
    show (do let (j, s) ← Decoder.instr pc code pc; Pure.pure (j, s - pc) : Except DecodeError (Instr × Nat)) = _
    cases Decoder.instr pc code pc <;> rfl
  rw [e, h]
  show Except.ok (i, pc + n - pc) = _
  rw [Nat.add_sub_cancel_left]
theorem dk_3 {code : ByteArray} {pc : Nat} (h : DkAt code pc [3]) : decode code pc = .ok (.iconst 0, 1) := dk_of ((dk_bind (dk_u1 (h 0 _ rfl))).trans rfl)
theorem dk_4 {code : ByteArray} {pc : Nat} (h : DkAt code pc [4]) : decode code pc = .ok (.iconst 1, 1) := dk_of ((dk_bind (dk_u1 (h 0 _ rfl))).trans rfl)
theorem dk_5 {code : ByteArray} {pc : Nat} (h : DkAt code pc [5]) : decode code pc = .ok (.iconst 2, 1) := dk_of ((dk_bind (dk_u1 (h 0 _ rfl))).trans rfl)
theorem dk_6 {code : ByteArray} {pc : Nat} (h : DkAt code pc [6]) : decode code pc = .ok (.iconst 3, 1) := dk_of ((dk_bind (dk_u1 (h 0 _ rfl))).trans rfl)
theorem dk_7 {code : ByteArray} {pc : Nat} (h : DkAt code pc [7]) : decode code pc = .ok (.iconst 4, 1) := dk_of ((dk_bind (dk_u1 (h 0 _ rfl))).trans rfl)
theorem dk_8 {code : ByteArray} {pc : Nat} (h : DkAt code pc [8]) : decode code pc = .ok (.iconst 5, 1) := dk_of ((dk_bind (dk_u1 (h 0 _ rfl))).trans rfl)
theorem dk_16 {code : ByteArray} {pc : Nat} (a : UInt8) (h : DkAt code pc [16, a]) : decode code pc = .ok (.bipush (Reader.signed 8 a.toNat), 2) := dk_of ((dk_bind (dk_u1 (h 0 _ rfl))).trans ((dk_bind (dk_map (dk_u1 (h 1 _ rfl)))).trans rfl))
theorem dk_17 {code : ByteArray} {pc : Nat} (a b : UInt8) (h : DkAt code pc [17, a, b]) : decode code pc = .ok (.sipush (Reader.signed 16 (a.toNat * 256 + b.toNat)), 3) := dk_of ((dk_bind (dk_u1 (h 0 _ rfl))).trans ((dk_bind (dk_map (dk_u2 (h 1 _ rfl) (h 2 _ rfl)))).trans rfl))
theorem dk_18 {code : ByteArray} {pc : Nat} (a : UInt8) (h : DkAt code pc [18, a]) : decode code pc = .ok (.ldc a.toNat, 2) := dk_of ((dk_bind (dk_u1 (h 0 _ rfl))).trans ((dk_bind (dk_u1 (h 1 _ rfl))).trans rfl))
theorem dk_21 {code : ByteArray} {pc : Nat} (a : UInt8) (h : DkAt code pc [21, a]) : decode code pc = .ok (.iload a.toNat, 2) := dk_of ((dk_bind (dk_u1 (h 0 _ rfl))).trans ((dk_bind (dk_u1 (h 1 _ rfl))).trans rfl))
theorem dk_25 {code : ByteArray} {pc : Nat} (a : UInt8) (h : DkAt code pc [25, a]) : decode code pc = .ok (.aload a.toNat, 2) := dk_of ((dk_bind (dk_u1 (h 0 _ rfl))).trans ((dk_bind (dk_u1 (h 1 _ rfl))).trans rfl))
theorem dk_27 {code : ByteArray} {pc : Nat} (h : DkAt code pc [27]) : decode code pc = .ok (.iload_n 1, 1) := dk_of ((dk_bind (dk_u1 (h 0 _ rfl))).trans rfl)
theorem dk_28 {code : ByteArray} {pc : Nat} (h : DkAt code pc [28]) : decode code pc = .ok (.iload_n 2, 1) := dk_of ((dk_bind (dk_u1 (h 0 _ rfl))).trans rfl)
theorem dk_29 {code : ByteArray} {pc : Nat} (h : DkAt code pc [29]) : decode code pc = .ok (.iload_n 3, 1) := dk_of ((dk_bind (dk_u1 (h 0 _ rfl))).trans rfl)
theorem dk_42 {code : ByteArray} {pc : Nat} (h : DkAt code pc [42]) : decode code pc = .ok (.aload_n 0, 1) := dk_of ((dk_bind (dk_u1 (h 0 _ rfl))).trans rfl)
theorem dk_43 {code : ByteArray} {pc : Nat} (h : DkAt code pc [43]) : decode code pc = .ok (.aload_n 1, 1) := dk_of ((dk_bind (dk_u1 (h 0 _ rfl))).trans rfl)
theorem dk_44 {code : ByteArray} {pc : Nat} (h : DkAt code pc [44]) : decode code pc = .ok (.aload_n 2, 1) := dk_of ((dk_bind (dk_u1 (h 0 _ rfl))).trans rfl)
theorem dk_45 {code : ByteArray} {pc : Nat} (h : DkAt code pc [45]) : decode code pc = .ok (.aload_n 3, 1) := dk_of ((dk_bind (dk_u1 (h 0 _ rfl))).trans rfl)
theorem dk_46 {code : ByteArray} {pc : Nat} (h : DkAt code pc [46]) : decode code pc = .ok (.iaload, 1) := dk_of ((dk_bind (dk_u1 (h 0 _ rfl))).trans rfl)
theorem dk_51 {code : ByteArray} {pc : Nat} (h : DkAt code pc [51]) : decode code pc = .ok (.baload, 1) := dk_of ((dk_bind (dk_u1 (h 0 _ rfl))).trans rfl)
theorem dk_54 {code : ByteArray} {pc : Nat} (a : UInt8) (h : DkAt code pc [54, a]) : decode code pc = .ok (.istore a.toNat, 2) := dk_of ((dk_bind (dk_u1 (h 0 _ rfl))).trans ((dk_bind (dk_u1 (h 1 _ rfl))).trans rfl))
theorem dk_58 {code : ByteArray} {pc : Nat} (a : UInt8) (h : DkAt code pc [58, a]) : decode code pc = .ok (.astore a.toNat, 2) := dk_of ((dk_bind (dk_u1 (h 0 _ rfl))).trans ((dk_bind (dk_u1 (h 1 _ rfl))).trans rfl))
theorem dk_60 {code : ByteArray} {pc : Nat} (h : DkAt code pc [60]) : decode code pc = .ok (.istore_n 1, 1) := dk_of ((dk_bind (dk_u1 (h 0 _ rfl))).trans rfl)
theorem dk_61 {code : ByteArray} {pc : Nat} (h : DkAt code pc [61]) : decode code pc = .ok (.istore_n 2, 1) := dk_of ((dk_bind (dk_u1 (h 0 _ rfl))).trans rfl)
theorem dk_62 {code : ByteArray} {pc : Nat} (h : DkAt code pc [62]) : decode code pc = .ok (.istore_n 3, 1) := dk_of ((dk_bind (dk_u1 (h 0 _ rfl))).trans rfl)
theorem dk_76 {code : ByteArray} {pc : Nat} (h : DkAt code pc [76]) : decode code pc = .ok (.astore_n 1, 1) := dk_of ((dk_bind (dk_u1 (h 0 _ rfl))).trans rfl)
theorem dk_77 {code : ByteArray} {pc : Nat} (h : DkAt code pc [77]) : decode code pc = .ok (.astore_n 2, 1) := dk_of ((dk_bind (dk_u1 (h 0 _ rfl))).trans rfl)
theorem dk_78 {code : ByteArray} {pc : Nat} (h : DkAt code pc [78]) : decode code pc = .ok (.astore_n 3, 1) := dk_of ((dk_bind (dk_u1 (h 0 _ rfl))).trans rfl)
theorem dk_79 {code : ByteArray} {pc : Nat} (h : DkAt code pc [79]) : decode code pc = .ok (.iastore, 1) := dk_of ((dk_bind (dk_u1 (h 0 _ rfl))).trans rfl)
theorem dk_84 {code : ByteArray} {pc : Nat} (h : DkAt code pc [84]) : decode code pc = .ok (.bastore, 1) := dk_of ((dk_bind (dk_u1 (h 0 _ rfl))).trans rfl)
theorem dk_87 {code : ByteArray} {pc : Nat} (h : DkAt code pc [87]) : decode code pc = .ok (.pop, 1) := dk_of ((dk_bind (dk_u1 (h 0 _ rfl))).trans rfl)
theorem dk_89 {code : ByteArray} {pc : Nat} (h : DkAt code pc [89]) : decode code pc = .ok (.dup, 1) := dk_of ((dk_bind (dk_u1 (h 0 _ rfl))).trans rfl)
theorem dk_96 {code : ByteArray} {pc : Nat} (h : DkAt code pc [96]) : decode code pc = .ok (.iadd, 1) := dk_of ((dk_bind (dk_u1 (h 0 _ rfl))).trans rfl)
theorem dk_100 {code : ByteArray} {pc : Nat} (h : DkAt code pc [100]) : decode code pc = .ok (.isub, 1) := dk_of ((dk_bind (dk_u1 (h 0 _ rfl))).trans rfl)
theorem dk_104 {code : ByteArray} {pc : Nat} (h : DkAt code pc [104]) : decode code pc = .ok (.imul, 1) := dk_of ((dk_bind (dk_u1 (h 0 _ rfl))).trans rfl)
theorem dk_112 {code : ByteArray} {pc : Nat} (h : DkAt code pc [112]) : decode code pc = .ok (.irem, 1) := dk_of ((dk_bind (dk_u1 (h 0 _ rfl))).trans rfl)
theorem dk_120 {code : ByteArray} {pc : Nat} (h : DkAt code pc [120]) : decode code pc = .ok (.ishl, 1) := dk_of ((dk_bind (dk_u1 (h 0 _ rfl))).trans rfl)
theorem dk_122 {code : ByteArray} {pc : Nat} (h : DkAt code pc [122]) : decode code pc = .ok (.ishr, 1) := dk_of ((dk_bind (dk_u1 (h 0 _ rfl))).trans rfl)
theorem dk_124 {code : ByteArray} {pc : Nat} (h : DkAt code pc [124]) : decode code pc = .ok (.iushr, 1) := dk_of ((dk_bind (dk_u1 (h 0 _ rfl))).trans rfl)
theorem dk_126 {code : ByteArray} {pc : Nat} (h : DkAt code pc [126]) : decode code pc = .ok (.iand, 1) := dk_of ((dk_bind (dk_u1 (h 0 _ rfl))).trans rfl)
theorem dk_128 {code : ByteArray} {pc : Nat} (h : DkAt code pc [128]) : decode code pc = .ok (.ior, 1) := dk_of ((dk_bind (dk_u1 (h 0 _ rfl))).trans rfl)
theorem dk_130 {code : ByteArray} {pc : Nat} (h : DkAt code pc [130]) : decode code pc = .ok (.ixor, 1) := dk_of ((dk_bind (dk_u1 (h 0 _ rfl))).trans rfl)
theorem dk_132 {code : ByteArray} {pc : Nat} (a b : UInt8) (h : DkAt code pc [132, a, b]) : decode code pc = .ok (.iinc a.toNat (Reader.signed 8 b.toNat), 3) := dk_of ((dk_bind (dk_u1 (h 0 _ rfl))).trans ((dk_bind (dk_u1 (h 1 _ rfl))).trans ((dk_bind (dk_map (dk_u1 (h 2 _ rfl)))).trans rfl)))
theorem dk_145 {code : ByteArray} {pc : Nat} (h : DkAt code pc [145]) : decode code pc = .ok (.i2b, 1) := dk_of ((dk_bind (dk_u1 (h 0 _ rfl))).trans rfl)
theorem dk_153 {code : ByteArray} {pc : Nat} (a b : UInt8) (h : DkAt code pc [153, a, b]) : decode code pc = .ok (.ifCond .eq (Reader.signed 16 (a.toNat * 256 + b.toNat)), 3) := dk_of ((dk_bind (dk_u1 (h 0 _ rfl))).trans ((dk_bind (dk_map (dk_u2 (h 1 _ rfl) (h 2 _ rfl)))).trans rfl))
theorem dk_154 {code : ByteArray} {pc : Nat} (a b : UInt8) (h : DkAt code pc [154, a, b]) : decode code pc = .ok (.ifCond .ne (Reader.signed 16 (a.toNat * 256 + b.toNat)), 3) := dk_of ((dk_bind (dk_u1 (h 0 _ rfl))).trans ((dk_bind (dk_map (dk_u2 (h 1 _ rfl) (h 2 _ rfl)))).trans rfl))
theorem dk_155 {code : ByteArray} {pc : Nat} (a b : UInt8) (h : DkAt code pc [155, a, b]) : decode code pc = .ok (.ifCond .lt (Reader.signed 16 (a.toNat * 256 + b.toNat)), 3) := dk_of ((dk_bind (dk_u1 (h 0 _ rfl))).trans ((dk_bind (dk_map (dk_u2 (h 1 _ rfl) (h 2 _ rfl)))).trans rfl))
theorem dk_159 {code : ByteArray} {pc : Nat} (a b : UInt8) (h : DkAt code pc [159, a, b]) : decode code pc = .ok (.if_icmp .eq (Reader.signed 16 (a.toNat * 256 + b.toNat)), 3) := dk_of ((dk_bind (dk_u1 (h 0 _ rfl))).trans ((dk_bind (dk_map (dk_u2 (h 1 _ rfl) (h 2 _ rfl)))).trans rfl))
theorem dk_162 {code : ByteArray} {pc : Nat} (a b : UInt8) (h : DkAt code pc [162, a, b]) : decode code pc = .ok (.if_icmp .ge (Reader.signed 16 (a.toNat * 256 + b.toNat)), 3) := dk_of ((dk_bind (dk_u1 (h 0 _ rfl))).trans ((dk_bind (dk_map (dk_u2 (h 1 _ rfl) (h 2 _ rfl)))).trans rfl))
theorem dk_163 {code : ByteArray} {pc : Nat} (a b : UInt8) (h : DkAt code pc [163, a, b]) : decode code pc = .ok (.if_icmp .gt (Reader.signed 16 (a.toNat * 256 + b.toNat)), 3) := dk_of ((dk_bind (dk_u1 (h 0 _ rfl))).trans ((dk_bind (dk_map (dk_u2 (h 1 _ rfl) (h 2 _ rfl)))).trans rfl))
theorem dk_164 {code : ByteArray} {pc : Nat} (a b : UInt8) (h : DkAt code pc [164, a, b]) : decode code pc = .ok (.if_icmp .le (Reader.signed 16 (a.toNat * 256 + b.toNat)), 3) := dk_of ((dk_bind (dk_u1 (h 0 _ rfl))).trans ((dk_bind (dk_map (dk_u2 (h 1 _ rfl) (h 2 _ rfl)))).trans rfl))
theorem dk_167 {code : ByteArray} {pc : Nat} (a b : UInt8) (h : DkAt code pc [167, a, b]) : decode code pc = .ok (.goto (Reader.signed 16 (a.toNat * 256 + b.toNat)), 3) := dk_of ((dk_bind (dk_u1 (h 0 _ rfl))).trans ((dk_bind (dk_map (dk_u2 (h 1 _ rfl) (h 2 _ rfl)))).trans rfl))
theorem dk_172 {code : ByteArray} {pc : Nat} (h : DkAt code pc [172]) : decode code pc = .ok (.ireturn, 1) := dk_of ((dk_bind (dk_u1 (h 0 _ rfl))).trans rfl)
theorem dk_177 {code : ByteArray} {pc : Nat} (h : DkAt code pc [177]) : decode code pc = .ok (.return_, 1) := dk_of ((dk_bind (dk_u1 (h 0 _ rfl))).trans rfl)
theorem dk_180 {code : ByteArray} {pc : Nat} (a b : UInt8) (h : DkAt code pc [180, a, b]) : decode code pc = .ok (.getfield (a.toNat * 256 + b.toNat), 3) := dk_of ((dk_bind (dk_u1 (h 0 _ rfl))).trans ((dk_bind (dk_u2 (h 1 _ rfl) (h 2 _ rfl))).trans rfl))
theorem dk_181 {code : ByteArray} {pc : Nat} (a b : UInt8) (h : DkAt code pc [181, a, b]) : decode code pc = .ok (.putfield (a.toNat * 256 + b.toNat), 3) := dk_of ((dk_bind (dk_u1 (h 0 _ rfl))).trans ((dk_bind (dk_u2 (h 1 _ rfl) (h 2 _ rfl))).trans rfl))
theorem dk_182 {code : ByteArray} {pc : Nat} (a b : UInt8) (h : DkAt code pc [182, a, b]) : decode code pc = .ok (.invokevirtual (a.toNat * 256 + b.toNat), 3) := dk_of ((dk_bind (dk_u1 (h 0 _ rfl))).trans ((dk_bind (dk_u2 (h 1 _ rfl) (h 2 _ rfl))).trans rfl))
theorem dk_183 {code : ByteArray} {pc : Nat} (a b : UInt8) (h : DkAt code pc [183, a, b]) : decode code pc = .ok (.invokespecial (a.toNat * 256 + b.toNat), 3) := dk_of ((dk_bind (dk_u1 (h 0 _ rfl))).trans ((dk_bind (dk_u2 (h 1 _ rfl) (h 2 _ rfl))).trans rfl))
theorem dk_184 {code : ByteArray} {pc : Nat} (a b : UInt8) (h : DkAt code pc [184, a, b]) : decode code pc = .ok (.invokestatic (a.toNat * 256 + b.toNat), 3) := dk_of ((dk_bind (dk_u1 (h 0 _ rfl))).trans ((dk_bind (dk_u2 (h 1 _ rfl) (h 2 _ rfl))).trans rfl))
theorem dk_187 {code : ByteArray} {pc : Nat} (a b : UInt8) (h : DkAt code pc [187, a, b]) : decode code pc = .ok (.new (a.toNat * 256 + b.toNat), 3) := dk_of ((dk_bind (dk_u1 (h 0 _ rfl))).trans ((dk_bind (dk_u2 (h 1 _ rfl) (h 2 _ rfl))).trans rfl))
theorem dk_188_8 {code : ByteArray} {pc : Nat} (h : DkAt code pc [188, 8]) : decode code pc = .ok (.newarray .byte, 2) := dk_of ((dk_bind (dk_u1 (h 0 _ rfl))).trans ((dk_bind (dk_u1 (h 1 _ rfl))).trans rfl))
theorem dk_188_10 {code : ByteArray} {pc : Nat} (h : DkAt code pc [188, 10]) : decode code pc = .ok (.newarray .int, 2) := dk_of ((dk_bind (dk_u1 (h 0 _ rfl))).trans ((dk_bind (dk_u1 (h 1 _ rfl))).trans rfl))
theorem dk_190 {code : ByteArray} {pc : Nat} (h : DkAt code pc [190]) : decode code pc = .ok (.arraylength, 1) := dk_of ((dk_bind (dk_u1 (h 0 _ rfl))).trans rfl)
theorem dk_191 {code : ByteArray} {pc : Nat} (h : DkAt code pc [191]) : decode code pc = .ok (.athrow, 1) := dk_of ((dk_bind (dk_u1 (h 0 _ rfl))).trans rfl)
theorem dk_192 {code : ByteArray} {pc : Nat} (a b : UInt8) (h : DkAt code pc [192, a, b]) : decode code pc = .ok (.checkcast (a.toNat * 256 + b.toNat), 3) := dk_of ((dk_bind (dk_u1 (h 0 _ rfl))).trans ((dk_bind (dk_u2 (h 1 _ rfl) (h 2 _ rfl))).trans rfl))
theorem dk_193 {code : ByteArray} {pc : Nat} (a b : UInt8) (h : DkAt code pc [193, a, b]) : decode code pc = .ok (.instanceof (a.toNat * 256 + b.toNat), 3) := dk_of ((dk_bind (dk_u1 (h 0 _ rfl))).trans ((dk_bind (dk_u2 (h 1 _ rfl) (h 2 _ rfl))).trans rfl))
/-! names: J5.java_lang_Object -/
/-! java/lang/Object -/
def RJ5 : String := "java/lang/Object"
abbrev cJ5_init : ByteArray := object_method_1_code
def yJ5_init : MethodName := ⟨RJ5, "<init>", "()V"⟩
theorem dJ5_init_0 : decode cJ5_init 0 = .ok (.return_, 1) := by decide +kernel
theorem q37 : (Jvm.Cond.instanceMethod ({ cls := "java/lang/Object", name := "<init>", desc := "()V" } : Jvm.MethodName)) ∈ lw_all := lw_g (lw_at lw_m1 21 rfl) rfl
theorem q38 : (Jvm.Cond.code ({ cls := "java/lang/Object", name := "<init>", desc := "()V" } : Jvm.MethodName) object_method_1_code (1 : Nat) (Option.none : Option Jvm.ClassFile.FieldType)) ∈ lw_all := lw_g (lw_at lw_m1 22 rfl) rfl
/-! names: X0.TeaDesk -/
/-! TeaDesk -/
def RX0 : String := "TeaDesk"
def TX0 : u_T := fun k => match k with
  | 0 => ("TeaDesk", "key", "[B", true)
  | 1 => ("TeaDesk", "block", "[B", true)
  | _ => ("TeaDesk", "out", "[B", true)
def tyX0 : Nat → FieldType := fun k => match k with
  | 0 => .array .byte
  | 1 => .array .byte
  | _ => .array .byte
abbrev wsX00 : List Cond := u_ws RX0 TX0 3
theorem nmX0 : ∀ a, a < 3 → ∀ b, b < 3 → a ≠ b → (TX0 a).2.1 ≠ (TX0 b).2.1 := by decide +kernel
theorem tyX0_ok : ∀ k, k < 3 → parseFieldDescriptor (TX0 k).2.2.1 = some (tyX0 k) := by decide +kernel
abbrev cX0_init : ByteArray := prog_8_method_1_code
def yX0_init : MethodName := ⟨RX0, "<init>", "()V"⟩
theorem dX0_init_0 : decode cX0_init 0 = .ok (.aload_n 0, 1) := dk_42 (dk_by (by decide +kernel))
theorem dX0_init_1 : decode cX0_init 1 = .ok (.invokespecial 1, 3) := dk_183 0 1 (dk_by (by decide +kernel))
theorem dX0_init_4 : decode cX0_init 4 = .ok (.aload_n 0, 1) := dk_42 (dk_by (by decide +kernel))
theorem dX0_init_5 : decode cX0_init 5 = .ok (.bipush 32, 2) := dk_16 32 (dk_by (by decide +kernel))
theorem dX0_init_7 : decode cX0_init 7 = .ok (.newarray .byte, 2) := dk_188_8 (dk_by (by decide +kernel))
theorem dX0_init_9 : decode cX0_init 9 = .ok (.putfield 7, 3) := dk_181 0 7 (dk_by (by decide +kernel))
theorem dX0_init_12 : decode cX0_init 12 = .ok (.aload_n 0, 1) := dk_42 (dk_by (by decide +kernel))
theorem dX0_init_13 : decode cX0_init 13 = .ok (.bipush 8, 2) := dk_16 8 (dk_by (by decide +kernel))
theorem dX0_init_15 : decode cX0_init 15 = .ok (.newarray .byte, 2) := dk_188_8 (dk_by (by decide +kernel))
theorem dX0_init_17 : decode cX0_init 17 = .ok (.putfield 13, 3) := dk_181 0 13 (dk_by (by decide +kernel))
theorem dX0_init_20 : decode cX0_init 20 = .ok (.aload_n 0, 1) := dk_42 (dk_by (by decide +kernel))
theorem dX0_init_21 : decode cX0_init 21 = .ok (.bipush 8, 2) := dk_16 8 (dk_by (by decide +kernel))
theorem dX0_init_23 : decode cX0_init 23 = .ok (.newarray .byte, 2) := dk_188_8 (dk_by (by decide +kernel))
theorem dX0_init_25 : decode cX0_init 25 = .ok (.putfield 16, 3) := dk_181 0 16 (dk_by (by decide +kernel))
theorem dX0_init_28 : decode cX0_init 28 = .ok (.return_, 1) := dk_177 (dk_by (by decide +kernel))
abbrev cX0_key : ByteArray := prog_8_method_3_code
def yX0_key : MethodName := ⟨RX0, "key", "(IIIII)V"⟩
theorem dX0_key_0 : decode cX0_key 0 = .ok (.iload_n 1, 1) := dk_27 (dk_by (by decide +kernel))
theorem dX0_key_1 : decode cX0_key 1 = .ok (.iconst 1, 1) := dk_4 (dk_by (by decide +kernel))
theorem dX0_key_2 : decode cX0_key 2 = .ok (.iand, 1) := dk_126 (dk_by (by decide +kernel))
theorem dX0_key_3 : decode cX0_key 3 = .ok (.iconst 4, 1) := dk_7 (dk_by (by decide +kernel))
theorem dX0_key_4 : decode cX0_key 4 = .ok (.ishl, 1) := dk_120 (dk_by (by decide +kernel))
theorem dX0_key_5 : decode cX0_key 5 = .ok (.istore 6, 2) := dk_54 6 (dk_by (by decide +kernel))
theorem dX0_key_7 : decode cX0_key 7 = .ok (.aload_n 0, 1) := dk_42 (dk_by (by decide +kernel))
theorem dX0_key_8 : decode cX0_key 8 = .ok (.getfield 7, 3) := dk_180 0 7 (dk_by (by decide +kernel))
theorem dX0_key_11 : decode cX0_key 11 = .ok (.iload 6, 2) := dk_21 6 (dk_by (by decide +kernel))
theorem dX0_key_13 : decode cX0_key 13 = .ok (.iload_n 2, 1) := dk_28 (dk_by (by decide +kernel))
theorem dX0_key_14 : decode cX0_key 14 = .ok (.invokestatic 19, 3) := dk_184 0 19 (dk_by (by decide +kernel))
theorem dX0_key_17 : decode cX0_key 17 = .ok (.aload_n 0, 1) := dk_42 (dk_by (by decide +kernel))
theorem dX0_key_18 : decode cX0_key 18 = .ok (.getfield 7, 3) := dk_180 0 7 (dk_by (by decide +kernel))
theorem dX0_key_21 : decode cX0_key 21 = .ok (.iload 6, 2) := dk_21 6 (dk_by (by decide +kernel))
theorem dX0_key_23 : decode cX0_key 23 = .ok (.iconst 4, 1) := dk_7 (dk_by (by decide +kernel))
theorem dX0_key_24 : decode cX0_key 24 = .ok (.iadd, 1) := dk_96 (dk_by (by decide +kernel))
theorem dX0_key_25 : decode cX0_key 25 = .ok (.iload_n 3, 1) := dk_29 (dk_by (by decide +kernel))
theorem dX0_key_26 : decode cX0_key 26 = .ok (.invokestatic 19, 3) := dk_184 0 19 (dk_by (by decide +kernel))
theorem dX0_key_29 : decode cX0_key 29 = .ok (.aload_n 0, 1) := dk_42 (dk_by (by decide +kernel))
theorem dX0_key_30 : decode cX0_key 30 = .ok (.getfield 7, 3) := dk_180 0 7 (dk_by (by decide +kernel))
theorem dX0_key_33 : decode cX0_key 33 = .ok (.iload 6, 2) := dk_21 6 (dk_by (by decide +kernel))
theorem dX0_key_35 : decode cX0_key 35 = .ok (.bipush 8, 2) := dk_16 8 (dk_by (by decide +kernel))
theorem dX0_key_37 : decode cX0_key 37 = .ok (.iadd, 1) := dk_96 (dk_by (by decide +kernel))
theorem dX0_key_38 : decode cX0_key 38 = .ok (.iload 4, 2) := dk_21 4 (dk_by (by decide +kernel))
theorem dX0_key_40 : decode cX0_key 40 = .ok (.invokestatic 19, 3) := dk_184 0 19 (dk_by (by decide +kernel))
theorem dX0_key_43 : decode cX0_key 43 = .ok (.aload_n 0, 1) := dk_42 (dk_by (by decide +kernel))
theorem dX0_key_44 : decode cX0_key 44 = .ok (.getfield 7, 3) := dk_180 0 7 (dk_by (by decide +kernel))
theorem dX0_key_47 : decode cX0_key 47 = .ok (.iload 6, 2) := dk_21 6 (dk_by (by decide +kernel))
theorem dX0_key_49 : decode cX0_key 49 = .ok (.bipush 12, 2) := dk_16 12 (dk_by (by decide +kernel))
theorem dX0_key_51 : decode cX0_key 51 = .ok (.iadd, 1) := dk_96 (dk_by (by decide +kernel))
theorem dX0_key_52 : decode cX0_key 52 = .ok (.iload 5, 2) := dk_21 5 (dk_by (by decide +kernel))
theorem dX0_key_54 : decode cX0_key 54 = .ok (.invokestatic 19, 3) := dk_184 0 19 (dk_by (by decide +kernel))
theorem dX0_key_57 : decode cX0_key 57 = .ok (.return_, 1) := dk_177 (dk_by (by decide +kernel))
abbrev cX0_word : ByteArray := prog_8_method_2_code
def yX0_word : MethodName := ⟨RX0, "word", "([BII)V"⟩
theorem dX0_word_0 : decode cX0_word 0 = .ok (.aload_n 0, 1) := dk_42 (dk_by (by decide +kernel))
theorem dX0_word_1 : decode cX0_word 1 = .ok (.iload_n 1, 1) := dk_27 (dk_by (by decide +kernel))
theorem dX0_word_2 : decode cX0_word 2 = .ok (.iload_n 2, 1) := dk_28 (dk_by (by decide +kernel))
theorem dX0_word_3 : decode cX0_word 3 = .ok (.bipush 24, 2) := dk_16 24 (dk_by (by decide +kernel))
theorem dX0_word_5 : decode cX0_word 5 = .ok (.ishr, 1) := dk_122 (dk_by (by decide +kernel))
theorem dX0_word_6 : decode cX0_word 6 = .ok (.i2b, 1) := dk_145 (dk_by (by decide +kernel))
theorem dX0_word_7 : decode cX0_word 7 = .ok (.bastore, 1) := dk_84 (dk_by (by decide +kernel))
theorem dX0_word_8 : decode cX0_word 8 = .ok (.aload_n 0, 1) := dk_42 (dk_by (by decide +kernel))
theorem dX0_word_9 : decode cX0_word 9 = .ok (.iload_n 1, 1) := dk_27 (dk_by (by decide +kernel))
theorem dX0_word_10 : decode cX0_word 10 = .ok (.iconst 1, 1) := dk_4 (dk_by (by decide +kernel))
theorem dX0_word_11 : decode cX0_word 11 = .ok (.iadd, 1) := dk_96 (dk_by (by decide +kernel))
theorem dX0_word_12 : decode cX0_word 12 = .ok (.iload_n 2, 1) := dk_28 (dk_by (by decide +kernel))
theorem dX0_word_13 : decode cX0_word 13 = .ok (.bipush 16, 2) := dk_16 16 (dk_by (by decide +kernel))
theorem dX0_word_15 : decode cX0_word 15 = .ok (.ishr, 1) := dk_122 (dk_by (by decide +kernel))
theorem dX0_word_16 : decode cX0_word 16 = .ok (.i2b, 1) := dk_145 (dk_by (by decide +kernel))
theorem dX0_word_17 : decode cX0_word 17 = .ok (.bastore, 1) := dk_84 (dk_by (by decide +kernel))
theorem dX0_word_18 : decode cX0_word 18 = .ok (.aload_n 0, 1) := dk_42 (dk_by (by decide +kernel))
theorem dX0_word_19 : decode cX0_word 19 = .ok (.iload_n 1, 1) := dk_27 (dk_by (by decide +kernel))
theorem dX0_word_20 : decode cX0_word 20 = .ok (.iconst 2, 1) := dk_5 (dk_by (by decide +kernel))
theorem dX0_word_21 : decode cX0_word 21 = .ok (.iadd, 1) := dk_96 (dk_by (by decide +kernel))
theorem dX0_word_22 : decode cX0_word 22 = .ok (.iload_n 2, 1) := dk_28 (dk_by (by decide +kernel))
theorem dX0_word_23 : decode cX0_word 23 = .ok (.bipush 8, 2) := dk_16 8 (dk_by (by decide +kernel))
theorem dX0_word_25 : decode cX0_word 25 = .ok (.ishr, 1) := dk_122 (dk_by (by decide +kernel))
theorem dX0_word_26 : decode cX0_word 26 = .ok (.i2b, 1) := dk_145 (dk_by (by decide +kernel))
theorem dX0_word_27 : decode cX0_word 27 = .ok (.bastore, 1) := dk_84 (dk_by (by decide +kernel))
theorem dX0_word_28 : decode cX0_word 28 = .ok (.aload_n 0, 1) := dk_42 (dk_by (by decide +kernel))
theorem dX0_word_29 : decode cX0_word 29 = .ok (.iload_n 1, 1) := dk_27 (dk_by (by decide +kernel))
theorem dX0_word_30 : decode cX0_word 30 = .ok (.iconst 3, 1) := dk_6 (dk_by (by decide +kernel))
theorem dX0_word_31 : decode cX0_word 31 = .ok (.iadd, 1) := dk_96 (dk_by (by decide +kernel))
theorem dX0_word_32 : decode cX0_word 32 = .ok (.iload_n 2, 1) := dk_28 (dk_by (by decide +kernel))
theorem dX0_word_33 : decode cX0_word 33 = .ok (.i2b, 1) := dk_145 (dk_by (by decide +kernel))
theorem dX0_word_34 : decode cX0_word 34 = .ok (.bastore, 1) := dk_84 (dk_by (by decide +kernel))
theorem dX0_word_35 : decode cX0_word 35 = .ok (.return_, 1) := dk_177 (dk_by (by decide +kernel))
abbrev cX0_block : ByteArray := prog_8_method_4_code
def yX0_block : MethodName := ⟨RX0, "block", "(II)V"⟩
theorem dX0_block_0 : decode cX0_block 0 = .ok (.aload_n 0, 1) := dk_42 (dk_by (by decide +kernel))
theorem dX0_block_1 : decode cX0_block 1 = .ok (.getfield 13, 3) := dk_180 0 13 (dk_by (by decide +kernel))
theorem dX0_block_4 : decode cX0_block 4 = .ok (.iconst 0, 1) := dk_3 (dk_by (by decide +kernel))
theorem dX0_block_5 : decode cX0_block 5 = .ok (.iload_n 1, 1) := dk_27 (dk_by (by decide +kernel))
theorem dX0_block_6 : decode cX0_block 6 = .ok (.invokestatic 19, 3) := dk_184 0 19 (dk_by (by decide +kernel))
theorem dX0_block_9 : decode cX0_block 9 = .ok (.aload_n 0, 1) := dk_42 (dk_by (by decide +kernel))
theorem dX0_block_10 : decode cX0_block 10 = .ok (.getfield 13, 3) := dk_180 0 13 (dk_by (by decide +kernel))
theorem dX0_block_13 : decode cX0_block 13 = .ok (.iconst 4, 1) := dk_7 (dk_by (by decide +kernel))
theorem dX0_block_14 : decode cX0_block 14 = .ok (.iload_n 2, 1) := dk_28 (dk_by (by decide +kernel))
theorem dX0_block_15 : decode cX0_block 15 = .ok (.invokestatic 19, 3) := dk_184 0 19 (dk_by (by decide +kernel))
theorem dX0_block_18 : decode cX0_block 18 = .ok (.return_, 1) := dk_177 (dk_by (by decide +kernel))
abbrev cX0_lock : ByteArray := prog_8_method_7_code
def yX0_lock : MethodName := ⟨RX0, "lock", "(I)V"⟩
theorem dX0_lock_0 : decode cX0_lock 0 = .ok (.aload_n 0, 1) := dk_42 (dk_by (by decide +kernel))
theorem dX0_lock_1 : decode cX0_lock 1 = .ok (.iconst 1, 1) := dk_4 (dk_by (by decide +kernel))
theorem dX0_lock_2 : decode cX0_lock 2 = .ok (.iload_n 1, 1) := dk_27 (dk_by (by decide +kernel))
theorem dX0_lock_3 : decode cX0_lock 3 = .ok (.invokevirtual 48, 3) := dk_182 0 48 (dk_by (by decide +kernel))
theorem dX0_lock_6 : decode cX0_lock 6 = .ok (.return_, 1) := dk_177 (dk_by (by decide +kernel))
abbrev cX0_run : ByteArray := prog_8_method_5_code
def yX0_run : MethodName := ⟨RX0, "run", "(ZI)V"⟩
theorem dX0_run_0 : decode cX0_run 0 = .ok (.iload_n 2, 1) := dk_28 (dk_by (by decide +kernel))
theorem dX0_run_1 : decode cX0_run 1 = .ok (.bipush 7, 2) := dk_16 7 (dk_by (by decide +kernel))
theorem dX0_run_3 : decode cX0_run 3 = .ok (.iand, 1) := dk_126 (dk_by (by decide +kernel))
theorem dX0_run_4 : decode cX0_run 4 = .ok (.invokestatic 23, 3) := dk_184 0 23 (dk_by (by decide +kernel))
theorem dX0_run_7 : decode cX0_run 7 = .ok (.istore_n 3, 1) := dk_62 (dk_by (by decide +kernel))
theorem dX0_run_8 : decode cX0_run 8 = .ok (.iload_n 3, 1) := dk_29 (dk_by (by decide +kernel))
theorem dX0_run_9 : decode cX0_run 9 = .ok (.newarray .byte, 2) := dk_188_8 (dk_by (by decide +kernel))
theorem dX0_run_11 : decode cX0_run 11 = .ok (.astore 4, 2) := dk_58 4 (dk_by (by decide +kernel))
theorem dX0_run_13 : decode cX0_run 13 = .ok (.iconst 0, 1) := dk_3 (dk_by (by decide +kernel))
theorem dX0_run_14 : decode cX0_run 14 = .ok (.istore 5, 2) := dk_54 5 (dk_by (by decide +kernel))
theorem dX0_run_16 : decode cX0_run 16 = .ok (.iload 5, 2) := dk_21 5 (dk_by (by decide +kernel))
theorem dX0_run_18 : decode cX0_run 18 = .ok (.iload_n 3, 1) := dk_29 (dk_by (by decide +kernel))
theorem dX0_run_19 : decode cX0_run 19 = .ok (.if_icmp .ge 21, 3) := dk_162 0 21 (dk_by (by decide +kernel))
theorem dX0_run_22 : decode cX0_run 22 = .ok (.aload 4, 2) := dk_25 4 (dk_by (by decide +kernel))
theorem dX0_run_24 : decode cX0_run 24 = .ok (.iload 5, 2) := dk_21 5 (dk_by (by decide +kernel))
theorem dX0_run_26 : decode cX0_run 26 = .ok (.aload_n 0, 1) := dk_42 (dk_by (by decide +kernel))
theorem dX0_run_27 : decode cX0_run 27 = .ok (.getfield 7, 3) := dk_180 0 7 (dk_by (by decide +kernel))
theorem dX0_run_30 : decode cX0_run 30 = .ok (.iload 5, 2) := dk_21 5 (dk_by (by decide +kernel))
theorem dX0_run_32 : decode cX0_run 32 = .ok (.baload, 1) := dk_51 (dk_by (by decide +kernel))
theorem dX0_run_33 : decode cX0_run 33 = .ok (.bastore, 1) := dk_84 (dk_by (by decide +kernel))
theorem dX0_run_34 : decode cX0_run 34 = .ok (.iinc 5 1, 3) := dk_132 5 1 (dk_by (by decide +kernel))
theorem dX0_run_37 : decode cX0_run 37 = .ok (.goto (-21), 3) := dk_167 255 235 (dk_by (by decide +kernel))
theorem dX0_run_40 : decode cX0_run 40 = .ok (.iload_n 2, 1) := dk_28 (dk_by (by decide +kernel))
theorem dX0_run_41 : decode cX0_run 41 = .ok (.iconst 4, 1) := dk_7 (dk_by (by decide +kernel))
theorem dX0_run_42 : decode cX0_run 42 = .ok (.iand, 1) := dk_126 (dk_by (by decide +kernel))
theorem dX0_run_43 : decode cX0_run 43 = .ok (.ifCond .ne 13, 3) := dk_154 0 13 (dk_by (by decide +kernel))
theorem dX0_run_46 : decode cX0_run 46 = .ok (.new 27, 3) := dk_187 0 27 (dk_by (by decide +kernel))
theorem dX0_run_49 : decode cX0_run 49 = .ok (.dup, 1) := dk_89 (dk_by (by decide +kernel))
theorem dX0_run_50 : decode cX0_run 50 = .ok (.invokespecial 29, 3) := dk_183 0 29 (dk_by (by decide +kernel))
theorem dX0_run_53 : decode cX0_run 53 = .ok (.goto 10, 3) := dk_167 0 10 (dk_by (by decide +kernel))
theorem dX0_run_56 : decode cX0_run 56 = .ok (.new 30, 3) := dk_187 0 30 (dk_by (by decide +kernel))
theorem dX0_run_59 : decode cX0_run 59 = .ok (.dup, 1) := dk_89 (dk_by (by decide +kernel))
theorem dX0_run_60 : decode cX0_run 60 = .ok (.invokespecial 32, 3) := dk_183 0 32 (dk_by (by decide +kernel))
theorem dX0_run_63 : decode cX0_run 63 = .ok (.astore 5, 2) := dk_58 5 (dk_by (by decide +kernel))
theorem dX0_run_65 : decode cX0_run 65 = .ok (.aload 5, 2) := dk_25 5 (dk_by (by decide +kernel))
theorem dX0_run_67 : decode cX0_run 67 = .ok (.iload_n 1, 1) := dk_27 (dk_by (by decide +kernel))
theorem dX0_run_68 : decode cX0_run 68 = .ok (.new 33, 3) := dk_187 0 33 (dk_by (by decide +kernel))
theorem dX0_run_71 : decode cX0_run 71 = .ok (.dup, 1) := dk_89 (dk_by (by decide +kernel))
theorem dX0_run_72 : decode cX0_run 72 = .ok (.aload 4, 2) := dk_25 4 (dk_by (by decide +kernel))
theorem dX0_run_74 : decode cX0_run 74 = .ok (.invokespecial 35, 3) := dk_183 0 35 (dk_by (by decide +kernel))
theorem dX0_run_77 : decode cX0_run 77 = .ok (.invokeinterface 38 3, 5) := by decide +kernel
theorem dX0_run_82 : decode cX0_run 82 = .ok (.aload 5, 2) := dk_25 5 (dk_by (by decide +kernel))
theorem dX0_run_84 : decode cX0_run 84 = .ok (.aload_n 0, 1) := dk_42 (dk_by (by decide +kernel))
theorem dX0_run_85 : decode cX0_run 85 = .ok (.getfield 13, 3) := dk_180 0 13 (dk_by (by decide +kernel))
theorem dX0_run_88 : decode cX0_run 88 = .ok (.iconst 0, 1) := dk_3 (dk_by (by decide +kernel))
theorem dX0_run_89 : decode cX0_run 89 = .ok (.aload_n 0, 1) := dk_42 (dk_by (by decide +kernel))
theorem dX0_run_90 : decode cX0_run 90 = .ok (.getfield 16, 3) := dk_180 0 16 (dk_by (by decide +kernel))
theorem dX0_run_93 : decode cX0_run 93 = .ok (.iconst 0, 1) := dk_3 (dk_by (by decide +kernel))
theorem dX0_run_94 : decode cX0_run 94 = .ok (.invokeinterface 44 5, 5) := by decide +kernel
theorem dX0_run_99 : decode cX0_run 99 = .ok (.pop, 1) := dk_87 (dk_by (by decide +kernel))
theorem dX0_run_100 : decode cX0_run 100 = .ok (.return_, 1) := dk_177 (dk_by (by decide +kernel))
abbrev cX0_size : ByteArray := prog_8_method_6_code
def yX0_size : MethodName := ⟨RX0, "size", "(I)I"⟩
theorem dX0_size_0 : decode cX0_size 0 = .ok (.bipush 16, 2) := by decide +kernel
theorem dX0_size_2 : decode cX0_size 2 = .ok (.ireturn, 1) := by decide +kernel
abbrev cX0_open : ByteArray := prog_8_method_8_code
def yX0_open : MethodName := ⟨RX0, "open", "(I)V"⟩
theorem dX0_open_0 : decode cX0_open 0 = .ok (.aload_n 0, 1) := dk_42 (dk_by (by decide +kernel))
theorem dX0_open_1 : decode cX0_open 1 = .ok (.iconst 0, 1) := dk_3 (dk_by (by decide +kernel))
theorem dX0_open_2 : decode cX0_open 2 = .ok (.iload_n 1, 1) := dk_27 (dk_by (by decide +kernel))
theorem dX0_open_3 : decode cX0_open 3 = .ok (.invokevirtual 48, 3) := dk_182 0 48 (dk_by (by decide +kernel))
theorem dX0_open_6 : decode cX0_open 6 = .ok (.return_, 1) := dk_177 (dk_by (by decide +kernel))
abbrev cX0_again : ByteArray := prog_8_method_9_code
def yX0_again : MethodName := ⟨RX0, "again", "()V"⟩
theorem dX0_again_0 : decode cX0_again 0 = .ok (.iconst 0, 1) := dk_3 (dk_by (by decide +kernel))
theorem dX0_again_1 : decode cX0_again 1 = .ok (.istore_n 1, 1) := dk_60 (dk_by (by decide +kernel))
theorem dX0_again_2 : decode cX0_again 2 = .ok (.iload_n 1, 1) := dk_27 (dk_by (by decide +kernel))
theorem dX0_again_3 : decode cX0_again 3 = .ok (.bipush 8, 2) := dk_16 8 (dk_by (by decide +kernel))
theorem dX0_again_5 : decode cX0_again 5 = .ok (.if_icmp .ge 21, 3) := dk_162 0 21 (dk_by (by decide +kernel))
theorem dX0_again_8 : decode cX0_again 8 = .ok (.aload_n 0, 1) := dk_42 (dk_by (by decide +kernel))
theorem dX0_again_9 : decode cX0_again 9 = .ok (.getfield 13, 3) := dk_180 0 13 (dk_by (by decide +kernel))
theorem dX0_again_12 : decode cX0_again 12 = .ok (.iload_n 1, 1) := dk_27 (dk_by (by decide +kernel))
theorem dX0_again_13 : decode cX0_again 13 = .ok (.aload_n 0, 1) := dk_42 (dk_by (by decide +kernel))
theorem dX0_again_14 : decode cX0_again 14 = .ok (.getfield 16, 3) := dk_180 0 16 (dk_by (by decide +kernel))
theorem dX0_again_17 : decode cX0_again 17 = .ok (.iload_n 1, 1) := dk_27 (dk_by (by decide +kernel))
theorem dX0_again_18 : decode cX0_again 18 = .ok (.baload, 1) := dk_51 (dk_by (by decide +kernel))
theorem dX0_again_19 : decode cX0_again 19 = .ok (.bastore, 1) := dk_84 (dk_by (by decide +kernel))
theorem dX0_again_20 : decode cX0_again 20 = .ok (.iinc 1 1, 3) := dk_132 1 1 (dk_by (by decide +kernel))
theorem dX0_again_23 : decode cX0_again 23 = .ok (.goto (-21), 3) := dk_167 255 235 (dk_by (by decide +kernel))
theorem dX0_again_26 : decode cX0_again 26 = .ok (.return_, 1) := dk_177 (dk_by (by decide +kernel))
abbrev cX0_out : ByteArray := prog_8_method_10_code
def yX0_out : MethodName := ⟨RX0, "out", "(I)I"⟩
theorem dX0_out_0 : decode cX0_out 0 = .ok (.aload_n 0, 1) := dk_42 (dk_by (by decide +kernel))
theorem dX0_out_1 : decode cX0_out 1 = .ok (.getfield 16, 3) := dk_180 0 16 (dk_by (by decide +kernel))
theorem dX0_out_4 : decode cX0_out 4 = .ok (.iload_n 1, 1) := dk_27 (dk_by (by decide +kernel))
theorem dX0_out_5 : decode cX0_out 5 = .ok (.bipush 7, 2) := dk_16 7 (dk_by (by decide +kernel))
theorem dX0_out_7 : decode cX0_out 7 = .ok (.iand, 1) := dk_126 (dk_by (by decide +kernel))
theorem dX0_out_8 : decode cX0_out 8 = .ok (.baload, 1) := dk_51 (dk_by (by decide +kernel))
theorem dX0_out_9 : decode cX0_out 9 = .ok (.sipush 255, 3) := dk_17 0 255 (dk_by (by decide +kernel))
theorem dX0_out_12 : decode cX0_out 12 = .ok (.iand, 1) := dk_126 (dk_by (by decide +kernel))
theorem dX0_out_13 : decode cX0_out 13 = .ok (.ireturn, 1) := dk_172 (dk_by (by decide +kernel))
theorem q17 : (Jvm.Cond.initialized "TeaDesk") ∈ lw_all := lw_g (lw_at lw_m1 1 rfl) rfl
theorem q32 : (Jvm.Cond.instantiable "TeaDesk" (3 : Nat)) ∈ lw_all := lw_g (lw_at lw_m1 16 rfl) rfl
theorem q34 : (Jvm.Cond.instanceMethod ({ cls := "TeaDesk", name := "<init>", desc := "()V" } : Jvm.MethodName)) ∈ lw_all := lw_g (lw_at lw_m1 18 rfl) rfl
theorem q35 : (Jvm.Cond.code ({ cls := "TeaDesk", name := "<init>", desc := "()V" } : Jvm.MethodName) prog_8_method_1_code (1 : Nat) (Option.none : Option Jvm.ClassFile.FieldType)) ∈ lw_all := lw_g (lw_at lw_m1 19 rfl) rfl
theorem q36 : (Jvm.Cond.methodLink "TeaDesk" (1 : Nat) ({ cls := "java/lang/Object", name := "<init>", desc := "()V" } : Jvm.MethodName)) ∈ lw_all := lw_g (lw_at lw_m1 20 rfl) rfl
theorem q39 : (Jvm.Cond.fieldLink "TeaDesk" (7 : Nat) "TeaDesk" "key" "[B") ∈ lw_all := lw_g (lw_at lw_m1 23 rfl) rfl
theorem q40 : (Jvm.Cond.fieldLink "TeaDesk" (13 : Nat) "TeaDesk" "block" "[B") ∈ lw_all := lw_g (lw_at lw_m1 24 rfl) rfl
theorem q41 : (Jvm.Cond.fieldLink "TeaDesk" (16 : Nat) "TeaDesk" "out" "[B") ∈ lw_all := lw_g (lw_at lw_m1 25 rfl) rfl
theorem q42 : (Jvm.Cond.laysFinal "TeaDesk" "TeaDesk" "key" "[B") ∈ lw_all := lw_g (lw_at lw_m1 26 rfl) rfl
theorem q43 : (Jvm.Cond.soleField "TeaDesk" "key") ∈ lw_all := lw_g (lw_at lw_m1 27 rfl) rfl
theorem q44 : (Jvm.Cond.laysFinal "TeaDesk" "TeaDesk" "block" "[B") ∈ lw_all := lw_g (lw_at lw_m1 28 rfl) rfl
theorem q45 : (Jvm.Cond.soleField "TeaDesk" "block") ∈ lw_all := lw_g (lw_at lw_m1 29 rfl) rfl
theorem q46 : (Jvm.Cond.laysFinal "TeaDesk" "TeaDesk" "out" "[B") ∈ lw_all := lw_g (lw_at lw_m1 30 rfl) rfl
theorem q47 : (Jvm.Cond.soleField "TeaDesk" "out") ∈ lw_all := lw_g (lw_at lw_m1 31 rfl) rfl
theorem q48 : (Jvm.Cond.superclass "TeaDesk" "java/lang/Object") ∈ lw_all := lw_g (lw_at lw_m1 32 rfl) rfl
theorem q51 : (Jvm.Cond.instanceMethod ({ cls := "TeaDesk", name := "key", desc := "(IIIII)V" } : Jvm.MethodName)) ∈ lw_all := lw_g (lw_at lw_m1 35 rfl) rfl
theorem q52 : (Jvm.Cond.selects "TeaDesk" ({ cls := "TeaDesk", name := "key", desc := "(IIIII)V" } : Jvm.MethodName) ({ cls := "TeaDesk", name := "key", desc := "(IIIII)V" } : Jvm.MethodName)) ∈ lw_all := lw_g (lw_at lw_m1 36 rfl) rfl
theorem q53 : (Jvm.Cond.code ({ cls := "TeaDesk", name := "key", desc := "(IIIII)V" } : Jvm.MethodName) prog_8_method_3_code (7 : Nat) (Option.none : Option Jvm.ClassFile.FieldType)) ∈ lw_all := lw_g (lw_at lw_m1 37 rfl) rfl
theorem q54 : (Jvm.Cond.methodLink "TeaDesk" (19 : Nat) ({ cls := "TeaDesk", name := "word", desc := "([BII)V" } : Jvm.MethodName)) ∈ lw_all := lw_g (lw_at lw_m1 38 rfl) rfl
theorem q55 : (Jvm.Cond.static ({ cls := "TeaDesk", name := "word", desc := "([BII)V" } : Jvm.MethodName)) ∈ lw_all := lw_g (lw_at lw_m1 39 rfl) rfl
theorem q56 : (Jvm.Cond.code ({ cls := "TeaDesk", name := "word", desc := "([BII)V" } : Jvm.MethodName) prog_8_method_2_code (3 : Nat) (Option.none : Option Jvm.ClassFile.FieldType)) ∈ lw_all := lw_g (lw_at lw_m1 40 rfl) rfl
theorem q58 : (Jvm.Cond.instanceMethod ({ cls := "TeaDesk", name := "block", desc := "(II)V" } : Jvm.MethodName)) ∈ lw_all := lw_g (lw_at lw_m1 42 rfl) rfl
theorem q59 : (Jvm.Cond.selects "TeaDesk" ({ cls := "TeaDesk", name := "block", desc := "(II)V" } : Jvm.MethodName) ({ cls := "TeaDesk", name := "block", desc := "(II)V" } : Jvm.MethodName)) ∈ lw_all := lw_g (lw_at lw_m1 43 rfl) rfl
theorem q60 : (Jvm.Cond.code ({ cls := "TeaDesk", name := "block", desc := "(II)V" } : Jvm.MethodName) prog_8_method_4_code (3 : Nat) (Option.none : Option Jvm.ClassFile.FieldType)) ∈ lw_all := lw_g (lw_at lw_m1 44 rfl) rfl
theorem q62 : (Jvm.Cond.instanceMethod ({ cls := "TeaDesk", name := "lock", desc := "(I)V" } : Jvm.MethodName)) ∈ lw_all := lw_g (lw_at lw_m1 46 rfl) rfl
theorem q63 : (Jvm.Cond.selects "TeaDesk" ({ cls := "TeaDesk", name := "lock", desc := "(I)V" } : Jvm.MethodName) ({ cls := "TeaDesk", name := "lock", desc := "(I)V" } : Jvm.MethodName)) ∈ lw_all := lw_g (lw_at lw_m1 47 rfl) rfl
theorem q64 : (Jvm.Cond.code ({ cls := "TeaDesk", name := "lock", desc := "(I)V" } : Jvm.MethodName) prog_8_method_7_code (2 : Nat) (Option.none : Option Jvm.ClassFile.FieldType)) ∈ lw_all := lw_g (lw_at lw_m1 48 rfl) rfl
theorem q65 : (Jvm.Cond.methodLink "TeaDesk" (48 : Nat) ({ cls := "TeaDesk", name := "run", desc := "(ZI)V" } : Jvm.MethodName)) ∈ lw_all := lw_g (lw_at lw_m1 49 rfl) rfl
theorem q66 : (Jvm.Cond.privateMethod ({ cls := "TeaDesk", name := "run", desc := "(ZI)V" } : Jvm.MethodName)) ∈ lw_tbl := lw_at lw_m1 50 rfl
theorem q67 : (Jvm.Cond.instanceMethod ({ cls := "TeaDesk", name := "run", desc := "(ZI)V" } : Jvm.MethodName)) ∈ lw_all := lw_g (lw_at lw_m1 51 rfl) rfl
theorem q68 : (Jvm.Cond.code ({ cls := "TeaDesk", name := "run", desc := "(ZI)V" } : Jvm.MethodName) prog_8_method_5_code (6 : Nat) (Option.none : Option Jvm.ClassFile.FieldType)) ∈ lw_all := lw_g (lw_at lw_m1 52 rfl) rfl
theorem q69 : (Jvm.Cond.methodLink "TeaDesk" (23 : Nat) ({ cls := "TeaDesk", name := "size", desc := "(I)I" } : Jvm.MethodName)) ∈ lw_all := lw_g (lw_at lw_m1 53 rfl) rfl
theorem q70 : (Jvm.Cond.static ({ cls := "TeaDesk", name := "size", desc := "(I)I" } : Jvm.MethodName)) ∈ lw_all := lw_g (lw_at lw_m1 54 rfl) rfl
theorem q71 : (Jvm.Cond.code ({ cls := "TeaDesk", name := "size", desc := "(I)I" } : Jvm.MethodName) prog_8_method_6_code (1 : Nat) (Option.some Jvm.ClassFile.FieldType.int)) ∈ lw_all := lw_g (lw_at lw_m1 55 rfl) rfl
theorem q72 : (Jvm.Cond.classLink "TeaDesk" (27 : Nat) "TEAEngine") ∈ lw_all := lw_g (lw_at lw_m1 56 rfl) rfl
theorem q74 : (Jvm.Cond.methodLink "TeaDesk" (29 : Nat) ({ cls := "TEAEngine", name := "<init>", desc := "()V" } : Jvm.MethodName)) ∈ lw_all := lw_g (lw_at lw_m1 58 rfl) rfl
theorem q97 : (Jvm.Cond.classLink "TeaDesk" (30 : Nat) "XTEAEngine") ∈ lw_all := lw_g (lw_at lw_m1 81 rfl) rfl
theorem q99 : (Jvm.Cond.methodLink "TeaDesk" (32 : Nat) ({ cls := "XTEAEngine", name := "<init>", desc := "()V" } : Jvm.MethodName)) ∈ lw_all := lw_g (lw_at lw_m1 83 rfl) rfl
theorem q120 : (Jvm.Cond.classLink "TeaDesk" (33 : Nat) "KeyParameter") ∈ lw_all := lw_g (lw_at lw_m1 104 rfl) rfl
theorem q122 : (Jvm.Cond.methodLink "TeaDesk" (35 : Nat) ({ cls := "KeyParameter", name := "<init>", desc := "([B)V" } : Jvm.MethodName)) ∈ lw_all := lw_g (lw_at lw_m1 106 rfl) rfl
theorem q139 : (Jvm.Cond.interfaceEntry "TeaDesk" (38 : Nat)) ∈ lw_tbl := lw_at lw_m1 123 rfl
theorem q140 : (Jvm.Cond.methodLink "TeaDesk" (38 : Nat) ({ cls := "BlockCipher", name := "init", desc := "(ZLCipherParameters;)V" } : Jvm.MethodName)) ∈ lw_all := lw_g (lw_at lw_m1 124 rfl) rfl
theorem q252 : (Jvm.Cond.interfaceEntry "TeaDesk" (44 : Nat)) ∈ lw_tbl := lw_at lw_m1 236 rfl
theorem q253 : (Jvm.Cond.methodLink "TeaDesk" (44 : Nat) ({ cls := "BlockCipher", name := "processBlock", desc := "([BI[BI)I" } : Jvm.MethodName)) ∈ lw_all := lw_g (lw_at lw_m1 237 rfl) rfl
theorem q353 : (Jvm.Cond.instanceMethod ({ cls := "TeaDesk", name := "open", desc := "(I)V" } : Jvm.MethodName)) ∈ lw_all := lw_g (lw_at lw_m2 97 rfl) rfl
theorem q354 : (Jvm.Cond.selects "TeaDesk" ({ cls := "TeaDesk", name := "open", desc := "(I)V" } : Jvm.MethodName) ({ cls := "TeaDesk", name := "open", desc := "(I)V" } : Jvm.MethodName)) ∈ lw_all := lw_g (lw_at lw_m2 98 rfl) rfl
theorem q355 : (Jvm.Cond.code ({ cls := "TeaDesk", name := "open", desc := "(I)V" } : Jvm.MethodName) prog_8_method_8_code (2 : Nat) (Option.none : Option Jvm.ClassFile.FieldType)) ∈ lw_all := lw_g (lw_at lw_m2 99 rfl) rfl
theorem q357 : (Jvm.Cond.instanceMethod ({ cls := "TeaDesk", name := "again", desc := "()V" } : Jvm.MethodName)) ∈ lw_all := lw_g (lw_at lw_m2 101 rfl) rfl
theorem q358 : (Jvm.Cond.selects "TeaDesk" ({ cls := "TeaDesk", name := "again", desc := "()V" } : Jvm.MethodName) ({ cls := "TeaDesk", name := "again", desc := "()V" } : Jvm.MethodName)) ∈ lw_all := lw_g (lw_at lw_m2 102 rfl) rfl
theorem q359 : (Jvm.Cond.code ({ cls := "TeaDesk", name := "again", desc := "()V" } : Jvm.MethodName) prog_8_method_9_code (2 : Nat) (Option.none : Option Jvm.ClassFile.FieldType)) ∈ lw_all := lw_g (lw_at lw_m2 103 rfl) rfl
theorem q361 : (Jvm.Cond.instanceMethod ({ cls := "TeaDesk", name := "out", desc := "(I)I" } : Jvm.MethodName)) ∈ lw_all := lw_g (lw_at lw_m2 105 rfl) rfl
theorem q362 : (Jvm.Cond.selects "TeaDesk" ({ cls := "TeaDesk", name := "out", desc := "(I)I" } : Jvm.MethodName) ({ cls := "TeaDesk", name := "out", desc := "(I)I" } : Jvm.MethodName)) ∈ lw_all := lw_g (lw_at lw_m2 106 rfl) rfl
theorem q363 : (Jvm.Cond.code ({ cls := "TeaDesk", name := "out", desc := "(I)I" } : Jvm.MethodName) prog_8_method_10_code (2 : Nat) (Option.some Jvm.ClassFile.FieldType.int)) ∈ lw_all := lw_g (lw_at lw_m2 107 rfl) rfl
theorem in_X0 : ∀ w ∈ wsX00, w ∈ lw_all := lw_in wsX00 [42, 44, 46] (by decide +kernel) (by decide +kernel)
/-! names: X1.TeaDeskModel -/
/-! TeaDeskModel -/
def RX1 : String := "TeaDeskModel"
def TX1 : u_T := fun k => match k with
  | 0 => ("TeaDeskModel", "key", "[I", true)
  | 1 => ("TeaDeskModel", "left", "I", false)
  | 2 => ("TeaDeskModel", "right", "I", false)
  | 3 => ("TeaDeskModel", "outLeft", "I", false)
  | _ => ("TeaDeskModel", "outRight", "I", false)
def tyX1 : Nat → FieldType := fun k => match k with
  | 0 => .array .int
  | 1 => .int
  | 2 => .int
  | 3 => .int
  | _ => .int
abbrev wsX10 : List Cond := u_ws RX1 TX1 5
theorem nmX1 : ∀ a, a < 5 → ∀ b, b < 5 → a ≠ b → (TX1 a).2.1 ≠ (TX1 b).2.1 := by decide +kernel
theorem tyX1_ok : ∀ k, k < 5 → parseFieldDescriptor (TX1 k).2.2.1 = some (tyX1 k) := by decide +kernel
abbrev cX1_init : ByteArray := prog_10_method_1_code
def yX1_init : MethodName := ⟨RX1, "<init>", "()V"⟩
theorem dX1_init_0 : decode cX1_init 0 = .ok (.aload_n 0, 1) := dk_42 (dk_by (by decide +kernel))
theorem dX1_init_1 : decode cX1_init 1 = .ok (.invokespecial 1, 3) := dk_183 0 1 (dk_by (by decide +kernel))
theorem dX1_init_4 : decode cX1_init 4 = .ok (.aload_n 0, 1) := dk_42 (dk_by (by decide +kernel))
theorem dX1_init_5 : decode cX1_init 5 = .ok (.iconst 4, 1) := dk_7 (dk_by (by decide +kernel))
theorem dX1_init_6 : decode cX1_init 6 = .ok (.newarray .int, 2) := dk_188_10 (dk_by (by decide +kernel))
theorem dX1_init_8 : decode cX1_init 8 = .ok (.putfield 7, 3) := dk_181 0 7 (dk_by (by decide +kernel))
theorem dX1_init_11 : decode cX1_init 11 = .ok (.return_, 1) := dk_177 (dk_by (by decide +kernel))
abbrev cX1_key : ByteArray := prog_10_method_6_code
def yX1_key : MethodName := ⟨RX1, "key", "(IIIII)V"⟩
theorem dX1_key_0 : decode cX1_key 0 = .ok (.iload_n 1, 1) := dk_27 (dk_by (by decide +kernel))
theorem dX1_key_1 : decode cX1_key 1 = .ok (.iconst 1, 1) := dk_4 (dk_by (by decide +kernel))
theorem dX1_key_2 : decode cX1_key 2 = .ok (.iand, 1) := dk_126 (dk_by (by decide +kernel))
theorem dX1_key_3 : decode cX1_key 3 = .ok (.ifCond .ne 33, 3) := dk_154 0 33 (dk_by (by decide +kernel))
theorem dX1_key_6 : decode cX1_key 6 = .ok (.aload_n 0, 1) := dk_42 (dk_by (by decide +kernel))
theorem dX1_key_7 : decode cX1_key 7 = .ok (.getfield 7, 3) := dk_180 0 7 (dk_by (by decide +kernel))
theorem dX1_key_10 : decode cX1_key 10 = .ok (.iconst 0, 1) := dk_3 (dk_by (by decide +kernel))
theorem dX1_key_11 : decode cX1_key 11 = .ok (.iload_n 2, 1) := dk_28 (dk_by (by decide +kernel))
theorem dX1_key_12 : decode cX1_key 12 = .ok (.iastore, 1) := dk_79 (dk_by (by decide +kernel))
theorem dX1_key_13 : decode cX1_key 13 = .ok (.aload_n 0, 1) := dk_42 (dk_by (by decide +kernel))
theorem dX1_key_14 : decode cX1_key 14 = .ok (.getfield 7, 3) := dk_180 0 7 (dk_by (by decide +kernel))
theorem dX1_key_17 : decode cX1_key 17 = .ok (.iconst 1, 1) := dk_4 (dk_by (by decide +kernel))
theorem dX1_key_18 : decode cX1_key 18 = .ok (.iload_n 3, 1) := dk_29 (dk_by (by decide +kernel))
theorem dX1_key_19 : decode cX1_key 19 = .ok (.iastore, 1) := dk_79 (dk_by (by decide +kernel))
theorem dX1_key_20 : decode cX1_key 20 = .ok (.aload_n 0, 1) := dk_42 (dk_by (by decide +kernel))
theorem dX1_key_21 : decode cX1_key 21 = .ok (.getfield 7, 3) := dk_180 0 7 (dk_by (by decide +kernel))
theorem dX1_key_24 : decode cX1_key 24 = .ok (.iconst 2, 1) := dk_5 (dk_by (by decide +kernel))
theorem dX1_key_25 : decode cX1_key 25 = .ok (.iload 4, 2) := dk_21 4 (dk_by (by decide +kernel))
theorem dX1_key_27 : decode cX1_key 27 = .ok (.iastore, 1) := dk_79 (dk_by (by decide +kernel))
theorem dX1_key_28 : decode cX1_key 28 = .ok (.aload_n 0, 1) := dk_42 (dk_by (by decide +kernel))
theorem dX1_key_29 : decode cX1_key 29 = .ok (.getfield 7, 3) := dk_180 0 7 (dk_by (by decide +kernel))
theorem dX1_key_32 : decode cX1_key 32 = .ok (.iconst 3, 1) := dk_6 (dk_by (by decide +kernel))
theorem dX1_key_33 : decode cX1_key 33 = .ok (.iload 5, 2) := dk_21 5 (dk_by (by decide +kernel))
theorem dX1_key_35 : decode cX1_key 35 = .ok (.iastore, 1) := dk_79 (dk_by (by decide +kernel))
theorem dX1_key_36 : decode cX1_key 36 = .ok (.return_, 1) := dk_177 (dk_by (by decide +kernel))
abbrev cX1_block : ByteArray := prog_10_method_7_code
def yX1_block : MethodName := ⟨RX1, "block", "(II)V"⟩
theorem dX1_block_0 : decode cX1_block 0 = .ok (.aload_n 0, 1) := dk_42 (dk_by (by decide +kernel))
theorem dX1_block_1 : decode cX1_block 1 = .ok (.iload_n 1, 1) := dk_27 (dk_by (by decide +kernel))
theorem dX1_block_2 : decode cX1_block 2 = .ok (.putfield 13, 3) := dk_181 0 13 (dk_by (by decide +kernel))
theorem dX1_block_5 : decode cX1_block 5 = .ok (.aload_n 0, 1) := dk_42 (dk_by (by decide +kernel))
theorem dX1_block_6 : decode cX1_block 6 = .ok (.iload_n 2, 1) := dk_28 (dk_by (by decide +kernel))
theorem dX1_block_7 : decode cX1_block 7 = .ok (.putfield 17, 3) := dk_181 0 17 (dk_by (by decide +kernel))
theorem dX1_block_10 : decode cX1_block 10 = .ok (.return_, 1) := dk_177 (dk_by (by decide +kernel))
abbrev cX1_lock : ByteArray := prog_10_method_8_code
def yX1_lock : MethodName := ⟨RX1, "lock", "(I)V"⟩
theorem dX1_lock_0 : decode cX1_lock 0 = .ok (.aload_n 0, 1) := dk_42 (dk_by (by decide +kernel))
theorem dX1_lock_1 : decode cX1_lock 1 = .ok (.iload_n 1, 1) := dk_27 (dk_by (by decide +kernel))
theorem dX1_lock_2 : decode cX1_lock 2 = .ok (.iconst 4, 1) := dk_7 (dk_by (by decide +kernel))
theorem dX1_lock_3 : decode cX1_lock 3 = .ok (.iand, 1) := dk_126 (dk_by (by decide +kernel))
theorem dX1_lock_4 : decode cX1_lock 4 = .ok (.ifCond .eq 7, 3) := dk_153 0 7 (dk_by (by decide +kernel))
theorem dX1_lock_7 : decode cX1_lock 7 = .ok (.iconst 1, 1) := dk_4 (dk_by (by decide +kernel))
theorem dX1_lock_8 : decode cX1_lock 8 = .ok (.goto 4, 3) := dk_167 0 4 (dk_by (by decide +kernel))
theorem dX1_lock_11 : decode cX1_lock 11 = .ok (.iconst 0, 1) := dk_3 (dk_by (by decide +kernel))
theorem dX1_lock_12 : decode cX1_lock 12 = .ok (.invokevirtual 35, 3) := dk_182 0 35 (dk_by (by decide +kernel))
theorem dX1_lock_15 : decode cX1_lock 15 = .ok (.return_, 1) := dk_177 (dk_by (by decide +kernel))
abbrev cX1_locks : ByteArray := prog_10_method_4_code
def yX1_locks : MethodName := ⟨RX1, "locks", "(Z)V"⟩
theorem dX1_locks_0 : decode cX1_locks 0 = .ok (.iconst 0, 1) := dk_3 (dk_by (by decide +kernel))
theorem dX1_locks_1 : decode cX1_locks 1 = .ok (.istore_n 2, 1) := dk_61 (dk_by (by decide +kernel))
theorem dX1_locks_2 : decode cX1_locks 2 = .ok (.aload_n 0, 1) := dk_42 (dk_by (by decide +kernel))
theorem dX1_locks_3 : decode cX1_locks 3 = .ok (.getfield 13, 3) := dk_180 0 13 (dk_by (by decide +kernel))
theorem dX1_locks_6 : decode cX1_locks 6 = .ok (.istore_n 3, 1) := dk_62 (dk_by (by decide +kernel))
theorem dX1_locks_7 : decode cX1_locks 7 = .ok (.aload_n 0, 1) := dk_42 (dk_by (by decide +kernel))
theorem dX1_locks_8 : decode cX1_locks 8 = .ok (.getfield 17, 3) := dk_180 0 17 (dk_by (by decide +kernel))
theorem dX1_locks_11 : decode cX1_locks 11 = .ok (.istore 4, 2) := dk_54 4 (dk_by (by decide +kernel))
theorem dX1_locks_13 : decode cX1_locks 13 = .ok (.iconst 0, 1) := dk_3 (dk_by (by decide +kernel))
theorem dX1_locks_14 : decode cX1_locks 14 = .ok (.istore 5, 2) := dk_54 5 (dk_by (by decide +kernel))
theorem dX1_locks_16 : decode cX1_locks 16 = .ok (.iload 5, 2) := dk_21 5 (dk_by (by decide +kernel))
theorem dX1_locks_18 : decode cX1_locks 18 = .ok (.bipush 32, 2) := dk_16 32 (dk_by (by decide +kernel))
theorem dX1_locks_20 : decode cX1_locks 20 = .ok (.if_icmp .ge 81, 3) := dk_162 0 81 (dk_by (by decide +kernel))
theorem dX1_locks_23 : decode cX1_locks 23 = .ok (.iload_n 2, 1) := dk_28 (dk_by (by decide +kernel))
theorem dX1_locks_24 : decode cX1_locks 24 = .ok (.ldc 20, 2) := dk_18 20 (dk_by (by decide +kernel))
theorem dX1_locks_26 : decode cX1_locks 26 = .ok (.iadd, 1) := dk_96 (dk_by (by decide +kernel))
theorem dX1_locks_27 : decode cX1_locks 27 = .ok (.istore 6, 2) := dk_54 6 (dk_by (by decide +kernel))
theorem dX1_locks_29 : decode cX1_locks 29 = .ok (.iload_n 3, 1) := dk_29 (dk_by (by decide +kernel))
theorem dX1_locks_30 : decode cX1_locks 30 = .ok (.iload_n 1, 1) := dk_27 (dk_by (by decide +kernel))
theorem dX1_locks_31 : decode cX1_locks 31 = .ok (.ifCond .eq 16, 3) := dk_153 0 16 (dk_by (by decide +kernel))
theorem dX1_locks_34 : decode cX1_locks 34 = .ok (.aload_n 0, 1) := dk_42 (dk_by (by decide +kernel))
theorem dX1_locks_35 : decode cX1_locks 35 = .ok (.iload 4, 2) := dk_21 4 (dk_by (by decide +kernel))
theorem dX1_locks_37 : decode cX1_locks 37 = .ok (.iload_n 2, 1) := dk_28 (dk_by (by decide +kernel))
theorem dX1_locks_38 : decode cX1_locks 38 = .ok (.iload_n 2, 1) := dk_28 (dk_by (by decide +kernel))
theorem dX1_locks_39 : decode cX1_locks 39 = .ok (.iconst 3, 1) := dk_6 (dk_by (by decide +kernel))
theorem dX1_locks_40 : decode cX1_locks 40 = .ok (.iand, 1) := dk_126 (dk_by (by decide +kernel))
theorem dX1_locks_41 : decode cX1_locks 41 = .ok (.invokevirtual 21, 3) := dk_182 0 21 (dk_by (by decide +kernel))
theorem dX1_locks_44 : decode cX1_locks 44 = .ok (.goto 12, 3) := dk_167 0 12 (dk_by (by decide +kernel))
theorem dX1_locks_47 : decode cX1_locks 47 = .ok (.aload_n 0, 1) := dk_42 (dk_by (by decide +kernel))
theorem dX1_locks_48 : decode cX1_locks 48 = .ok (.iload 4, 2) := dk_21 4 (dk_by (by decide +kernel))
theorem dX1_locks_50 : decode cX1_locks 50 = .ok (.iload 6, 2) := dk_21 6 (dk_by (by decide +kernel))
theorem dX1_locks_52 : decode cX1_locks 52 = .ok (.iconst 0, 1) := dk_3 (dk_by (by decide +kernel))
theorem dX1_locks_53 : decode cX1_locks 53 = .ok (.invokevirtual 25, 3) := dk_182 0 25 (dk_by (by decide +kernel))
theorem dX1_locks_56 : decode cX1_locks 56 = .ok (.iadd, 1) := dk_96 (dk_by (by decide +kernel))
theorem dX1_locks_57 : decode cX1_locks 57 = .ok (.istore_n 3, 1) := dk_62 (dk_by (by decide +kernel))
theorem dX1_locks_58 : decode cX1_locks 58 = .ok (.iload 4, 2) := dk_21 4 (dk_by (by decide +kernel))
theorem dX1_locks_60 : decode cX1_locks 60 = .ok (.iload_n 1, 1) := dk_27 (dk_by (by decide +kernel))
theorem dX1_locks_61 : decode cX1_locks 61 = .ok (.ifCond .eq 20, 3) := dk_153 0 20 (dk_by (by decide +kernel))
theorem dX1_locks_64 : decode cX1_locks 64 = .ok (.aload_n 0, 1) := dk_42 (dk_by (by decide +kernel))
theorem dX1_locks_65 : decode cX1_locks 65 = .ok (.iload_n 3, 1) := dk_29 (dk_by (by decide +kernel))
theorem dX1_locks_66 : decode cX1_locks 66 = .ok (.iload 6, 2) := dk_21 6 (dk_by (by decide +kernel))
theorem dX1_locks_68 : decode cX1_locks 68 = .ok (.iload 6, 2) := dk_21 6 (dk_by (by decide +kernel))
theorem dX1_locks_70 : decode cX1_locks 70 = .ok (.bipush 11, 2) := dk_16 11 (dk_by (by decide +kernel))
theorem dX1_locks_72 : decode cX1_locks 72 = .ok (.iushr, 1) := dk_124 (dk_by (by decide +kernel))
theorem dX1_locks_73 : decode cX1_locks 73 = .ok (.iconst 3, 1) := dk_6 (dk_by (by decide +kernel))
theorem dX1_locks_74 : decode cX1_locks 74 = .ok (.iand, 1) := dk_126 (dk_by (by decide +kernel))
theorem dX1_locks_75 : decode cX1_locks 75 = .ok (.invokevirtual 21, 3) := dk_182 0 21 (dk_by (by decide +kernel))
theorem dX1_locks_78 : decode cX1_locks 78 = .ok (.goto 11, 3) := dk_167 0 11 (dk_by (by decide +kernel))
theorem dX1_locks_81 : decode cX1_locks 81 = .ok (.aload_n 0, 1) := dk_42 (dk_by (by decide +kernel))
theorem dX1_locks_82 : decode cX1_locks 82 = .ok (.iload_n 3, 1) := dk_29 (dk_by (by decide +kernel))
theorem dX1_locks_83 : decode cX1_locks 83 = .ok (.iload 6, 2) := dk_21 6 (dk_by (by decide +kernel))
theorem dX1_locks_85 : decode cX1_locks 85 = .ok (.iconst 2, 1) := dk_5 (dk_by (by decide +kernel))
theorem dX1_locks_86 : decode cX1_locks 86 = .ok (.invokevirtual 25, 3) := dk_182 0 25 (dk_by (by decide +kernel))
theorem dX1_locks_89 : decode cX1_locks 89 = .ok (.iadd, 1) := dk_96 (dk_by (by decide +kernel))
theorem dX1_locks_90 : decode cX1_locks 90 = .ok (.istore 4, 2) := dk_54 4 (dk_by (by decide +kernel))
theorem dX1_locks_92 : decode cX1_locks 92 = .ok (.iload 6, 2) := dk_21 6 (dk_by (by decide +kernel))
theorem dX1_locks_94 : decode cX1_locks 94 = .ok (.istore_n 2, 1) := dk_61 (dk_by (by decide +kernel))
theorem dX1_locks_95 : decode cX1_locks 95 = .ok (.iinc 5 1, 3) := dk_132 5 1 (dk_by (by decide +kernel))
theorem dX1_locks_98 : decode cX1_locks 98 = .ok (.goto (-82), 3) := dk_167 255 174 (dk_by (by decide +kernel))
theorem dX1_locks_101 : decode cX1_locks 101 = .ok (.aload_n 0, 1) := dk_42 (dk_by (by decide +kernel))
theorem dX1_locks_102 : decode cX1_locks 102 = .ok (.iload_n 3, 1) := dk_29 (dk_by (by decide +kernel))
theorem dX1_locks_103 : decode cX1_locks 103 = .ok (.putfield 28, 3) := dk_181 0 28 (dk_by (by decide +kernel))
theorem dX1_locks_106 : decode cX1_locks 106 = .ok (.aload_n 0, 1) := dk_42 (dk_by (by decide +kernel))
theorem dX1_locks_107 : decode cX1_locks 107 = .ok (.iload 4, 2) := dk_21 4 (dk_by (by decide +kernel))
theorem dX1_locks_109 : decode cX1_locks 109 = .ok (.putfield 31, 3) := dk_181 0 31 (dk_by (by decide +kernel))
theorem dX1_locks_112 : decode cX1_locks 112 = .ok (.return_, 1) := dk_177 (dk_by (by decide +kernel))
abbrev cX1_xtea : ByteArray := prog_10_method_3_code
def yX1_xtea : MethodName := ⟨RX1, "xtea", "(III)I"⟩
theorem dX1_xtea_0 : decode cX1_xtea 0 = .ok (.iload_n 1, 1) := dk_27 (dk_by (by decide +kernel))
theorem dX1_xtea_1 : decode cX1_xtea 1 = .ok (.iconst 4, 1) := dk_7 (dk_by (by decide +kernel))
theorem dX1_xtea_2 : decode cX1_xtea 2 = .ok (.ishl, 1) := dk_120 (dk_by (by decide +kernel))
theorem dX1_xtea_3 : decode cX1_xtea 3 = .ok (.iload_n 1, 1) := dk_27 (dk_by (by decide +kernel))
theorem dX1_xtea_4 : decode cX1_xtea 4 = .ok (.iconst 5, 1) := dk_8 (dk_by (by decide +kernel))
theorem dX1_xtea_5 : decode cX1_xtea 5 = .ok (.iushr, 1) := dk_124 (dk_by (by decide +kernel))
theorem dX1_xtea_6 : decode cX1_xtea 6 = .ok (.ixor, 1) := dk_130 (dk_by (by decide +kernel))
theorem dX1_xtea_7 : decode cX1_xtea 7 = .ok (.iload_n 1, 1) := dk_27 (dk_by (by decide +kernel))
theorem dX1_xtea_8 : decode cX1_xtea 8 = .ok (.iadd, 1) := dk_96 (dk_by (by decide +kernel))
theorem dX1_xtea_9 : decode cX1_xtea 9 = .ok (.iload_n 2, 1) := dk_28 (dk_by (by decide +kernel))
theorem dX1_xtea_10 : decode cX1_xtea 10 = .ok (.aload_n 0, 1) := dk_42 (dk_by (by decide +kernel))
theorem dX1_xtea_11 : decode cX1_xtea 11 = .ok (.getfield 7, 3) := dk_180 0 7 (dk_by (by decide +kernel))
theorem dX1_xtea_14 : decode cX1_xtea 14 = .ok (.iload_n 3, 1) := dk_29 (dk_by (by decide +kernel))
theorem dX1_xtea_15 : decode cX1_xtea 15 = .ok (.iaload, 1) := dk_46 (dk_by (by decide +kernel))
theorem dX1_xtea_16 : decode cX1_xtea 16 = .ok (.iadd, 1) := dk_96 (dk_by (by decide +kernel))
theorem dX1_xtea_17 : decode cX1_xtea 17 = .ok (.ixor, 1) := dk_130 (dk_by (by decide +kernel))
theorem dX1_xtea_18 : decode cX1_xtea 18 = .ok (.ireturn, 1) := dk_172 (dk_by (by decide +kernel))
abbrev cX1_tea : ByteArray := prog_10_method_2_code
def yX1_tea : MethodName := ⟨RX1, "tea", "(III)I"⟩
theorem dX1_tea_0 : decode cX1_tea 0 = .ok (.iload_n 1, 1) := dk_27 (dk_by (by decide +kernel))
theorem dX1_tea_1 : decode cX1_tea 1 = .ok (.iconst 4, 1) := dk_7 (dk_by (by decide +kernel))
theorem dX1_tea_2 : decode cX1_tea 2 = .ok (.ishl, 1) := dk_120 (dk_by (by decide +kernel))
theorem dX1_tea_3 : decode cX1_tea 3 = .ok (.aload_n 0, 1) := dk_42 (dk_by (by decide +kernel))
theorem dX1_tea_4 : decode cX1_tea 4 = .ok (.getfield 7, 3) := dk_180 0 7 (dk_by (by decide +kernel))
theorem dX1_tea_7 : decode cX1_tea 7 = .ok (.iload_n 3, 1) := dk_29 (dk_by (by decide +kernel))
theorem dX1_tea_8 : decode cX1_tea 8 = .ok (.iaload, 1) := dk_46 (dk_by (by decide +kernel))
theorem dX1_tea_9 : decode cX1_tea 9 = .ok (.iadd, 1) := dk_96 (dk_by (by decide +kernel))
theorem dX1_tea_10 : decode cX1_tea 10 = .ok (.iload_n 1, 1) := dk_27 (dk_by (by decide +kernel))
theorem dX1_tea_11 : decode cX1_tea 11 = .ok (.iload_n 2, 1) := dk_28 (dk_by (by decide +kernel))
theorem dX1_tea_12 : decode cX1_tea 12 = .ok (.iadd, 1) := dk_96 (dk_by (by decide +kernel))
theorem dX1_tea_13 : decode cX1_tea 13 = .ok (.ixor, 1) := dk_130 (dk_by (by decide +kernel))
theorem dX1_tea_14 : decode cX1_tea 14 = .ok (.iload_n 1, 1) := dk_27 (dk_by (by decide +kernel))
theorem dX1_tea_15 : decode cX1_tea 15 = .ok (.iconst 5, 1) := dk_8 (dk_by (by decide +kernel))
theorem dX1_tea_16 : decode cX1_tea 16 = .ok (.iushr, 1) := dk_124 (dk_by (by decide +kernel))
theorem dX1_tea_17 : decode cX1_tea 17 = .ok (.aload_n 0, 1) := dk_42 (dk_by (by decide +kernel))
theorem dX1_tea_18 : decode cX1_tea 18 = .ok (.getfield 7, 3) := dk_180 0 7 (dk_by (by decide +kernel))
theorem dX1_tea_21 : decode cX1_tea 21 = .ok (.iload_n 3, 1) := dk_29 (dk_by (by decide +kernel))
theorem dX1_tea_22 : decode cX1_tea 22 = .ok (.iconst 1, 1) := dk_4 (dk_by (by decide +kernel))
theorem dX1_tea_23 : decode cX1_tea 23 = .ok (.iadd, 1) := dk_96 (dk_by (by decide +kernel))
theorem dX1_tea_24 : decode cX1_tea 24 = .ok (.iaload, 1) := dk_46 (dk_by (by decide +kernel))
theorem dX1_tea_25 : decode cX1_tea 25 = .ok (.iadd, 1) := dk_96 (dk_by (by decide +kernel))
theorem dX1_tea_26 : decode cX1_tea 26 = .ok (.ixor, 1) := dk_130 (dk_by (by decide +kernel))
theorem dX1_tea_27 : decode cX1_tea 27 = .ok (.ireturn, 1) := dk_172 (dk_by (by decide +kernel))
abbrev cX1_open : ByteArray := prog_10_method_9_code
def yX1_open : MethodName := ⟨RX1, "open", "(I)V"⟩
theorem dX1_open_0 : decode cX1_open 0 = .ok (.aload_n 0, 1) := dk_42 (dk_by (by decide +kernel))
theorem dX1_open_1 : decode cX1_open 1 = .ok (.iload_n 1, 1) := dk_27 (dk_by (by decide +kernel))
theorem dX1_open_2 : decode cX1_open 2 = .ok (.iconst 4, 1) := dk_7 (dk_by (by decide +kernel))
theorem dX1_open_3 : decode cX1_open 3 = .ok (.iand, 1) := dk_126 (dk_by (by decide +kernel))
theorem dX1_open_4 : decode cX1_open 4 = .ok (.ifCond .eq 7, 3) := dk_153 0 7 (dk_by (by decide +kernel))
theorem dX1_open_7 : decode cX1_open 7 = .ok (.iconst 1, 1) := dk_4 (dk_by (by decide +kernel))
theorem dX1_open_8 : decode cX1_open 8 = .ok (.goto 4, 3) := dk_167 0 4 (dk_by (by decide +kernel))
theorem dX1_open_11 : decode cX1_open 11 = .ok (.iconst 0, 1) := dk_3 (dk_by (by decide +kernel))
theorem dX1_open_12 : decode cX1_open 12 = .ok (.invokevirtual 39, 3) := dk_182 0 39 (dk_by (by decide +kernel))
theorem dX1_open_15 : decode cX1_open 15 = .ok (.return_, 1) := dk_177 (dk_by (by decide +kernel))
abbrev cX1_opens : ByteArray := prog_10_method_5_code
def yX1_opens : MethodName := ⟨RX1, "opens", "(Z)V"⟩
theorem dX1_opens_0 : decode cX1_opens 0 = .ok (.ldc 34, 2) := dk_18 34 (dk_by (by decide +kernel))
theorem dX1_opens_2 : decode cX1_opens 2 = .ok (.istore_n 2, 1) := dk_61 (dk_by (by decide +kernel))
theorem dX1_opens_3 : decode cX1_opens 3 = .ok (.aload_n 0, 1) := dk_42 (dk_by (by decide +kernel))
theorem dX1_opens_4 : decode cX1_opens 4 = .ok (.getfield 13, 3) := dk_180 0 13 (dk_by (by decide +kernel))
theorem dX1_opens_7 : decode cX1_opens 7 = .ok (.istore_n 3, 1) := dk_62 (dk_by (by decide +kernel))
theorem dX1_opens_8 : decode cX1_opens 8 = .ok (.aload_n 0, 1) := dk_42 (dk_by (by decide +kernel))
theorem dX1_opens_9 : decode cX1_opens 9 = .ok (.getfield 17, 3) := dk_180 0 17 (dk_by (by decide +kernel))
theorem dX1_opens_12 : decode cX1_opens 12 = .ok (.istore 4, 2) := dk_54 4 (dk_by (by decide +kernel))
theorem dX1_opens_14 : decode cX1_opens 14 = .ok (.iconst 0, 1) := dk_3 (dk_by (by decide +kernel))
theorem dX1_opens_15 : decode cX1_opens 15 = .ok (.istore 5, 2) := dk_54 5 (dk_by (by decide +kernel))
theorem dX1_opens_17 : decode cX1_opens 17 = .ok (.iload 5, 2) := dk_21 5 (dk_by (by decide +kernel))
theorem dX1_opens_19 : decode cX1_opens 19 = .ok (.bipush 32, 2) := dk_16 32 (dk_by (by decide +kernel))
theorem dX1_opens_21 : decode cX1_opens 21 = .ok (.if_icmp .ge 79, 3) := dk_162 0 79 (dk_by (by decide +kernel))
theorem dX1_opens_24 : decode cX1_opens 24 = .ok (.iload_n 2, 1) := dk_28 (dk_by (by decide +kernel))
theorem dX1_opens_25 : decode cX1_opens 25 = .ok (.ldc 20, 2) := dk_18 20 (dk_by (by decide +kernel))
theorem dX1_opens_27 : decode cX1_opens 27 = .ok (.isub, 1) := dk_100 (dk_by (by decide +kernel))
theorem dX1_opens_28 : decode cX1_opens 28 = .ok (.istore 6, 2) := dk_54 6 (dk_by (by decide +kernel))
theorem dX1_opens_30 : decode cX1_opens 30 = .ok (.iload 4, 2) := dk_21 4 (dk_by (by decide +kernel))
theorem dX1_opens_32 : decode cX1_opens 32 = .ok (.iload_n 1, 1) := dk_27 (dk_by (by decide +kernel))
theorem dX1_opens_33 : decode cX1_opens 33 = .ok (.ifCond .eq 18, 3) := dk_153 0 18 (dk_by (by decide +kernel))
theorem dX1_opens_36 : decode cX1_opens 36 = .ok (.aload_n 0, 1) := dk_42 (dk_by (by decide +kernel))
theorem dX1_opens_37 : decode cX1_opens 37 = .ok (.iload_n 3, 1) := dk_29 (dk_by (by decide +kernel))
theorem dX1_opens_38 : decode cX1_opens 38 = .ok (.iload_n 2, 1) := dk_28 (dk_by (by decide +kernel))
theorem dX1_opens_39 : decode cX1_opens 39 = .ok (.iload_n 2, 1) := dk_28 (dk_by (by decide +kernel))
theorem dX1_opens_40 : decode cX1_opens 40 = .ok (.bipush 11, 2) := dk_16 11 (dk_by (by decide +kernel))
theorem dX1_opens_42 : decode cX1_opens 42 = .ok (.iushr, 1) := dk_124 (dk_by (by decide +kernel))
theorem dX1_opens_43 : decode cX1_opens 43 = .ok (.iconst 3, 1) := dk_6 (dk_by (by decide +kernel))
theorem dX1_opens_44 : decode cX1_opens 44 = .ok (.iand, 1) := dk_126 (dk_by (by decide +kernel))
theorem dX1_opens_45 : decode cX1_opens 45 = .ok (.invokevirtual 21, 3) := dk_182 0 21 (dk_by (by decide +kernel))
theorem dX1_opens_48 : decode cX1_opens 48 = .ok (.goto 10, 3) := dk_167 0 10 (dk_by (by decide +kernel))
theorem dX1_opens_51 : decode cX1_opens 51 = .ok (.aload_n 0, 1) := dk_42 (dk_by (by decide +kernel))
theorem dX1_opens_52 : decode cX1_opens 52 = .ok (.iload_n 3, 1) := dk_29 (dk_by (by decide +kernel))
theorem dX1_opens_53 : decode cX1_opens 53 = .ok (.iload_n 2, 1) := dk_28 (dk_by (by decide +kernel))
theorem dX1_opens_54 : decode cX1_opens 54 = .ok (.iconst 2, 1) := dk_5 (dk_by (by decide +kernel))
theorem dX1_opens_55 : decode cX1_opens 55 = .ok (.invokevirtual 25, 3) := dk_182 0 25 (dk_by (by decide +kernel))
theorem dX1_opens_58 : decode cX1_opens 58 = .ok (.isub, 1) := dk_100 (dk_by (by decide +kernel))
theorem dX1_opens_59 : decode cX1_opens 59 = .ok (.istore 4, 2) := dk_54 4 (dk_by (by decide +kernel))
theorem dX1_opens_61 : decode cX1_opens 61 = .ok (.iload_n 3, 1) := dk_29 (dk_by (by decide +kernel))
theorem dX1_opens_62 : decode cX1_opens 62 = .ok (.iload_n 1, 1) := dk_27 (dk_by (by decide +kernel))
theorem dX1_opens_63 : decode cX1_opens 63 = .ok (.ifCond .eq 18, 3) := dk_153 0 18 (dk_by (by decide +kernel))
theorem dX1_opens_66 : decode cX1_opens 66 = .ok (.aload_n 0, 1) := dk_42 (dk_by (by decide +kernel))
theorem dX1_opens_67 : decode cX1_opens 67 = .ok (.iload 4, 2) := dk_21 4 (dk_by (by decide +kernel))
theorem dX1_opens_69 : decode cX1_opens 69 = .ok (.iload 6, 2) := dk_21 6 (dk_by (by decide +kernel))
theorem dX1_opens_71 : decode cX1_opens 71 = .ok (.iload 6, 2) := dk_21 6 (dk_by (by decide +kernel))
theorem dX1_opens_73 : decode cX1_opens 73 = .ok (.iconst 3, 1) := dk_6 (dk_by (by decide +kernel))
theorem dX1_opens_74 : decode cX1_opens 74 = .ok (.iand, 1) := dk_126 (dk_by (by decide +kernel))
theorem dX1_opens_75 : decode cX1_opens 75 = .ok (.invokevirtual 21, 3) := dk_182 0 21 (dk_by (by decide +kernel))
theorem dX1_opens_78 : decode cX1_opens 78 = .ok (.goto 11, 3) := dk_167 0 11 (dk_by (by decide +kernel))
theorem dX1_opens_81 : decode cX1_opens 81 = .ok (.aload_n 0, 1) := dk_42 (dk_by (by decide +kernel))
theorem dX1_opens_82 : decode cX1_opens 82 = .ok (.iload 4, 2) := dk_21 4 (dk_by (by decide +kernel))
theorem dX1_opens_84 : decode cX1_opens 84 = .ok (.iload_n 2, 1) := dk_28 (dk_by (by decide +kernel))
theorem dX1_opens_85 : decode cX1_opens 85 = .ok (.iconst 0, 1) := dk_3 (dk_by (by decide +kernel))
theorem dX1_opens_86 : decode cX1_opens 86 = .ok (.invokevirtual 25, 3) := dk_182 0 25 (dk_by (by decide +kernel))
theorem dX1_opens_89 : decode cX1_opens 89 = .ok (.isub, 1) := dk_100 (dk_by (by decide +kernel))
theorem dX1_opens_90 : decode cX1_opens 90 = .ok (.istore_n 3, 1) := dk_62 (dk_by (by decide +kernel))
theorem dX1_opens_91 : decode cX1_opens 91 = .ok (.iload 6, 2) := dk_21 6 (dk_by (by decide +kernel))
theorem dX1_opens_93 : decode cX1_opens 93 = .ok (.istore_n 2, 1) := dk_61 (dk_by (by decide +kernel))
theorem dX1_opens_94 : decode cX1_opens 94 = .ok (.iinc 5 1, 3) := dk_132 5 1 (dk_by (by decide +kernel))
theorem dX1_opens_97 : decode cX1_opens 97 = .ok (.goto (-80), 3) := dk_167 255 176 (dk_by (by decide +kernel))
theorem dX1_opens_100 : decode cX1_opens 100 = .ok (.aload_n 0, 1) := dk_42 (dk_by (by decide +kernel))
theorem dX1_opens_101 : decode cX1_opens 101 = .ok (.iload_n 3, 1) := dk_29 (dk_by (by decide +kernel))
theorem dX1_opens_102 : decode cX1_opens 102 = .ok (.putfield 28, 3) := dk_181 0 28 (dk_by (by decide +kernel))
theorem dX1_opens_105 : decode cX1_opens 105 = .ok (.aload_n 0, 1) := dk_42 (dk_by (by decide +kernel))
theorem dX1_opens_106 : decode cX1_opens 106 = .ok (.iload 4, 2) := dk_21 4 (dk_by (by decide +kernel))
theorem dX1_opens_108 : decode cX1_opens 108 = .ok (.putfield 31, 3) := dk_181 0 31 (dk_by (by decide +kernel))
theorem dX1_opens_111 : decode cX1_opens 111 = .ok (.return_, 1) := dk_177 (dk_by (by decide +kernel))
abbrev cX1_again : ByteArray := prog_10_method_10_code
def yX1_again : MethodName := ⟨RX1, "again", "()V"⟩
theorem dX1_again_0 : decode cX1_again 0 = .ok (.aload_n 0, 1) := dk_42 (dk_by (by decide +kernel))
theorem dX1_again_1 : decode cX1_again 1 = .ok (.aload_n 0, 1) := dk_42 (dk_by (by decide +kernel))
theorem dX1_again_2 : decode cX1_again 2 = .ok (.getfield 28, 3) := dk_180 0 28 (dk_by (by decide +kernel))
theorem dX1_again_5 : decode cX1_again 5 = .ok (.putfield 13, 3) := dk_181 0 13 (dk_by (by decide +kernel))
theorem dX1_again_8 : decode cX1_again 8 = .ok (.aload_n 0, 1) := dk_42 (dk_by (by decide +kernel))
theorem dX1_again_9 : decode cX1_again 9 = .ok (.aload_n 0, 1) := dk_42 (dk_by (by decide +kernel))
theorem dX1_again_10 : decode cX1_again 10 = .ok (.getfield 31, 3) := dk_180 0 31 (dk_by (by decide +kernel))
theorem dX1_again_13 : decode cX1_again 13 = .ok (.putfield 17, 3) := dk_181 0 17 (dk_by (by decide +kernel))
theorem dX1_again_16 : decode cX1_again 16 = .ok (.return_, 1) := dk_177 (dk_by (by decide +kernel))
abbrev cX1_out : ByteArray := prog_10_method_11_code
def yX1_out : MethodName := ⟨RX1, "out", "(I)I"⟩
theorem dX1_out_0 : decode cX1_out 0 = .ok (.iload_n 1, 1) := dk_27 (dk_by (by decide +kernel))
theorem dX1_out_1 : decode cX1_out 1 = .ok (.bipush 7, 2) := dk_16 7 (dk_by (by decide +kernel))
theorem dX1_out_3 : decode cX1_out 3 = .ok (.iand, 1) := dk_126 (dk_by (by decide +kernel))
theorem dX1_out_4 : decode cX1_out 4 = .ok (.istore_n 2, 1) := dk_61 (dk_by (by decide +kernel))
theorem dX1_out_5 : decode cX1_out 5 = .ok (.iload_n 2, 1) := dk_28 (dk_by (by decide +kernel))
theorem dX1_out_6 : decode cX1_out 6 = .ok (.iconst 4, 1) := dk_7 (dk_by (by decide +kernel))
theorem dX1_out_7 : decode cX1_out 7 = .ok (.if_icmp .ge 10, 3) := dk_162 0 10 (dk_by (by decide +kernel))
theorem dX1_out_10 : decode cX1_out 10 = .ok (.aload_n 0, 1) := dk_42 (dk_by (by decide +kernel))
theorem dX1_out_11 : decode cX1_out 11 = .ok (.getfield 28, 3) := dk_180 0 28 (dk_by (by decide +kernel))
theorem dX1_out_14 : decode cX1_out 14 = .ok (.goto 7, 3) := dk_167 0 7 (dk_by (by decide +kernel))
theorem dX1_out_17 : decode cX1_out 17 = .ok (.aload_n 0, 1) := dk_42 (dk_by (by decide +kernel))
theorem dX1_out_18 : decode cX1_out 18 = .ok (.getfield 31, 3) := dk_180 0 31 (dk_by (by decide +kernel))
theorem dX1_out_21 : decode cX1_out 21 = .ok (.bipush 24, 2) := dk_16 24 (dk_by (by decide +kernel))
theorem dX1_out_23 : decode cX1_out 23 = .ok (.bipush 8, 2) := dk_16 8 (dk_by (by decide +kernel))
theorem dX1_out_25 : decode cX1_out 25 = .ok (.iload_n 2, 1) := dk_28 (dk_by (by decide +kernel))
theorem dX1_out_26 : decode cX1_out 26 = .ok (.iconst 4, 1) := dk_7 (dk_by (by decide +kernel))
theorem dX1_out_27 : decode cX1_out 27 = .ok (.irem, 1) := dk_112 (dk_by (by decide +kernel))
theorem dX1_out_28 : decode cX1_out 28 = .ok (.imul, 1) := dk_104 (dk_by (by decide +kernel))
theorem dX1_out_29 : decode cX1_out 29 = .ok (.isub, 1) := dk_100 (dk_by (by decide +kernel))
theorem dX1_out_30 : decode cX1_out 30 = .ok (.ishr, 1) := dk_122 (dk_by (by decide +kernel))
theorem dX1_out_31 : decode cX1_out 31 = .ok (.sipush 255, 3) := dk_17 0 255 (dk_by (by decide +kernel))
theorem dX1_out_34 : decode cX1_out 34 = .ok (.iand, 1) := dk_126 (dk_by (by decide +kernel))
theorem dX1_out_35 : decode cX1_out 35 = .ok (.ireturn, 1) := dk_172 (dk_by (by decide +kernel))
theorem q18 : (Jvm.Cond.initialized "TeaDeskModel") ∈ lw_all := lw_g (lw_at lw_m1 2 rfl) rfl
theorem q365 : (Jvm.Cond.instantiable "TeaDeskModel" (5 : Nat)) ∈ lw_all := lw_g (lw_at lw_m2 109 rfl) rfl
theorem q367 : (Jvm.Cond.instanceMethod ({ cls := "TeaDeskModel", name := "<init>", desc := "()V" } : Jvm.MethodName)) ∈ lw_all := lw_g (lw_at lw_m2 111 rfl) rfl
theorem q368 : (Jvm.Cond.code ({ cls := "TeaDeskModel", name := "<init>", desc := "()V" } : Jvm.MethodName) prog_10_method_1_code (1 : Nat) (Option.none : Option Jvm.ClassFile.FieldType)) ∈ lw_all := lw_g (lw_at lw_m2 112 rfl) rfl
theorem q369 : (Jvm.Cond.methodLink "TeaDeskModel" (1 : Nat) ({ cls := "java/lang/Object", name := "<init>", desc := "()V" } : Jvm.MethodName)) ∈ lw_all := lw_g (lw_at lw_m2 113 rfl) rfl
theorem q370 : (Jvm.Cond.fieldLink "TeaDeskModel" (7 : Nat) "TeaDeskModel" "key" "[I") ∈ lw_all := lw_g (lw_at lw_m2 114 rfl) rfl
theorem q371 : (Jvm.Cond.fieldLink "TeaDeskModel" (13 : Nat) "TeaDeskModel" "left" "I") ∈ lw_all := lw_g (lw_at lw_m2 115 rfl) rfl
theorem q372 : (Jvm.Cond.fieldLink "TeaDeskModel" (17 : Nat) "TeaDeskModel" "right" "I") ∈ lw_all := lw_g (lw_at lw_m2 116 rfl) rfl
theorem q373 : (Jvm.Cond.fieldLink "TeaDeskModel" (28 : Nat) "TeaDeskModel" "outLeft" "I") ∈ lw_all := lw_g (lw_at lw_m2 117 rfl) rfl
theorem q374 : (Jvm.Cond.fieldLink "TeaDeskModel" (31 : Nat) "TeaDeskModel" "outRight" "I") ∈ lw_all := lw_g (lw_at lw_m2 118 rfl) rfl
theorem q375 : (Jvm.Cond.laysFinal "TeaDeskModel" "TeaDeskModel" "key" "[I") ∈ lw_all := lw_g (lw_at lw_m2 119 rfl) rfl
theorem q376 : (Jvm.Cond.soleField "TeaDeskModel" "key") ∈ lw_all := lw_g (lw_at lw_m2 120 rfl) rfl
theorem q377 : (Jvm.Cond.lays "TeaDeskModel" "TeaDeskModel" "left" "I") ∈ lw_all := lw_g (lw_at lw_m2 121 rfl) rfl
theorem q378 : (Jvm.Cond.soleField "TeaDeskModel" "left") ∈ lw_all := lw_g (lw_at lw_m2 122 rfl) rfl
theorem q379 : (Jvm.Cond.lays "TeaDeskModel" "TeaDeskModel" "right" "I") ∈ lw_all := lw_g (lw_at lw_m2 123 rfl) rfl
theorem q380 : (Jvm.Cond.soleField "TeaDeskModel" "right") ∈ lw_all := lw_g (lw_at lw_m2 124 rfl) rfl
theorem q381 : (Jvm.Cond.lays "TeaDeskModel" "TeaDeskModel" "outLeft" "I") ∈ lw_all := lw_g (lw_at lw_m2 125 rfl) rfl
theorem q382 : (Jvm.Cond.soleField "TeaDeskModel" "outLeft") ∈ lw_all := lw_g (lw_at lw_m2 126 rfl) rfl
theorem q383 : (Jvm.Cond.lays "TeaDeskModel" "TeaDeskModel" "outRight" "I") ∈ lw_all := lw_g (lw_at lw_m2 127 rfl) rfl
theorem q384 : (Jvm.Cond.soleField "TeaDeskModel" "outRight") ∈ lw_all := lw_g (lw_at lw_m2 128 rfl) rfl
theorem q385 : (Jvm.Cond.superclass "TeaDeskModel" "java/lang/Object") ∈ lw_all := lw_g (lw_at lw_m2 129 rfl) rfl
theorem q387 : (Jvm.Cond.instanceMethod ({ cls := "TeaDeskModel", name := "key", desc := "(IIIII)V" } : Jvm.MethodName)) ∈ lw_all := lw_g (lw_at lw_m2 131 rfl) rfl
theorem q388 : (Jvm.Cond.selects "TeaDeskModel" ({ cls := "TeaDeskModel", name := "key", desc := "(IIIII)V" } : Jvm.MethodName) ({ cls := "TeaDeskModel", name := "key", desc := "(IIIII)V" } : Jvm.MethodName)) ∈ lw_all := lw_g (lw_at lw_m2 132 rfl) rfl
theorem q389 : (Jvm.Cond.code ({ cls := "TeaDeskModel", name := "key", desc := "(IIIII)V" } : Jvm.MethodName) prog_10_method_6_code (6 : Nat) (Option.none : Option Jvm.ClassFile.FieldType)) ∈ lw_all := lw_g (lw_at lw_m2 133 rfl) rfl
theorem q391 : (Jvm.Cond.instanceMethod ({ cls := "TeaDeskModel", name := "block", desc := "(II)V" } : Jvm.MethodName)) ∈ lw_all := lw_g (lw_at lw_m2 135 rfl) rfl
theorem q392 : (Jvm.Cond.selects "TeaDeskModel" ({ cls := "TeaDeskModel", name := "block", desc := "(II)V" } : Jvm.MethodName) ({ cls := "TeaDeskModel", name := "block", desc := "(II)V" } : Jvm.MethodName)) ∈ lw_all := lw_g (lw_at lw_m2 136 rfl) rfl
theorem q393 : (Jvm.Cond.code ({ cls := "TeaDeskModel", name := "block", desc := "(II)V" } : Jvm.MethodName) prog_10_method_7_code (3 : Nat) (Option.none : Option Jvm.ClassFile.FieldType)) ∈ lw_all := lw_g (lw_at lw_m2 137 rfl) rfl
theorem q395 : (Jvm.Cond.instanceMethod ({ cls := "TeaDeskModel", name := "lock", desc := "(I)V" } : Jvm.MethodName)) ∈ lw_all := lw_g (lw_at lw_m2 139 rfl) rfl
theorem q396 : (Jvm.Cond.selects "TeaDeskModel" ({ cls := "TeaDeskModel", name := "lock", desc := "(I)V" } : Jvm.MethodName) ({ cls := "TeaDeskModel", name := "lock", desc := "(I)V" } : Jvm.MethodName)) ∈ lw_all := lw_g (lw_at lw_m2 140 rfl) rfl
theorem q397 : (Jvm.Cond.code ({ cls := "TeaDeskModel", name := "lock", desc := "(I)V" } : Jvm.MethodName) prog_10_method_8_code (2 : Nat) (Option.none : Option Jvm.ClassFile.FieldType)) ∈ lw_all := lw_g (lw_at lw_m2 141 rfl) rfl
theorem q398 : (Jvm.Cond.methodLink "TeaDeskModel" (35 : Nat) ({ cls := "TeaDeskModel", name := "locks", desc := "(Z)V" } : Jvm.MethodName)) ∈ lw_all := lw_g (lw_at lw_m2 142 rfl) rfl
theorem q399 : (Jvm.Cond.privateMethod ({ cls := "TeaDeskModel", name := "locks", desc := "(Z)V" } : Jvm.MethodName)) ∈ lw_tbl := lw_at lw_m2 143 rfl
theorem q400 : (Jvm.Cond.instanceMethod ({ cls := "TeaDeskModel", name := "locks", desc := "(Z)V" } : Jvm.MethodName)) ∈ lw_all := lw_g (lw_at lw_m2 144 rfl) rfl
theorem q401 : (Jvm.Cond.code ({ cls := "TeaDeskModel", name := "locks", desc := "(Z)V" } : Jvm.MethodName) prog_10_method_4_code (7 : Nat) (Option.none : Option Jvm.ClassFile.FieldType)) ∈ lw_all := lw_g (lw_at lw_m2 145 rfl) rfl
theorem q402 : (Jvm.Cond.constant "TeaDeskModel" (20 : Nat) (-1640531527 : Int32)) ∈ lw_all := lw_g (lw_at lw_m2 146 rfl) rfl
theorem q403 : (Jvm.Cond.methodLink "TeaDeskModel" (21 : Nat) ({ cls := "TeaDeskModel", name := "xtea", desc := "(III)I" } : Jvm.MethodName)) ∈ lw_all := lw_g (lw_at lw_m2 147 rfl) rfl
theorem q404 : (Jvm.Cond.privateMethod ({ cls := "TeaDeskModel", name := "xtea", desc := "(III)I" } : Jvm.MethodName)) ∈ lw_tbl := lw_at lw_m2 148 rfl
theorem q405 : (Jvm.Cond.instanceMethod ({ cls := "TeaDeskModel", name := "xtea", desc := "(III)I" } : Jvm.MethodName)) ∈ lw_all := lw_g (lw_at lw_m2 149 rfl) rfl
theorem q406 : (Jvm.Cond.code ({ cls := "TeaDeskModel", name := "xtea", desc := "(III)I" } : Jvm.MethodName) prog_10_method_3_code (4 : Nat) (Option.some Jvm.ClassFile.FieldType.int)) ∈ lw_all := lw_g (lw_at lw_m2 150 rfl) rfl
theorem q407 : (Jvm.Cond.methodLink "TeaDeskModel" (25 : Nat) ({ cls := "TeaDeskModel", name := "tea", desc := "(III)I" } : Jvm.MethodName)) ∈ lw_all := lw_g (lw_at lw_m2 151 rfl) rfl
theorem q408 : (Jvm.Cond.privateMethod ({ cls := "TeaDeskModel", name := "tea", desc := "(III)I" } : Jvm.MethodName)) ∈ lw_tbl := lw_at lw_m2 152 rfl
theorem q409 : (Jvm.Cond.instanceMethod ({ cls := "TeaDeskModel", name := "tea", desc := "(III)I" } : Jvm.MethodName)) ∈ lw_all := lw_g (lw_at lw_m2 153 rfl) rfl
theorem q410 : (Jvm.Cond.code ({ cls := "TeaDeskModel", name := "tea", desc := "(III)I" } : Jvm.MethodName) prog_10_method_2_code (4 : Nat) (Option.some Jvm.ClassFile.FieldType.int)) ∈ lw_all := lw_g (lw_at lw_m2 154 rfl) rfl
theorem q412 : (Jvm.Cond.instanceMethod ({ cls := "TeaDeskModel", name := "open", desc := "(I)V" } : Jvm.MethodName)) ∈ lw_all := lw_g (lw_at lw_m2 156 rfl) rfl
theorem q413 : (Jvm.Cond.selects "TeaDeskModel" ({ cls := "TeaDeskModel", name := "open", desc := "(I)V" } : Jvm.MethodName) ({ cls := "TeaDeskModel", name := "open", desc := "(I)V" } : Jvm.MethodName)) ∈ lw_all := lw_g (lw_at lw_m2 157 rfl) rfl
theorem q414 : (Jvm.Cond.code ({ cls := "TeaDeskModel", name := "open", desc := "(I)V" } : Jvm.MethodName) prog_10_method_9_code (2 : Nat) (Option.none : Option Jvm.ClassFile.FieldType)) ∈ lw_all := lw_g (lw_at lw_m2 158 rfl) rfl
theorem q415 : (Jvm.Cond.methodLink "TeaDeskModel" (39 : Nat) ({ cls := "TeaDeskModel", name := "opens", desc := "(Z)V" } : Jvm.MethodName)) ∈ lw_all := lw_g (lw_at lw_m2 159 rfl) rfl
theorem q416 : (Jvm.Cond.privateMethod ({ cls := "TeaDeskModel", name := "opens", desc := "(Z)V" } : Jvm.MethodName)) ∈ lw_tbl := lw_at lw_m2 160 rfl
theorem q417 : (Jvm.Cond.instanceMethod ({ cls := "TeaDeskModel", name := "opens", desc := "(Z)V" } : Jvm.MethodName)) ∈ lw_all := lw_g (lw_at lw_m2 161 rfl) rfl
theorem q418 : (Jvm.Cond.code ({ cls := "TeaDeskModel", name := "opens", desc := "(Z)V" } : Jvm.MethodName) prog_10_method_5_code (7 : Nat) (Option.none : Option Jvm.ClassFile.FieldType)) ∈ lw_all := lw_g (lw_at lw_m2 162 rfl) rfl
theorem q419 : (Jvm.Cond.constant "TeaDeskModel" (34 : Nat) (-957401312 : Int32)) ∈ lw_all := lw_g (lw_at lw_m2 163 rfl) rfl
theorem q421 : (Jvm.Cond.instanceMethod ({ cls := "TeaDeskModel", name := "again", desc := "()V" } : Jvm.MethodName)) ∈ lw_all := lw_g (lw_at lw_m2 165 rfl) rfl
theorem q422 : (Jvm.Cond.selects "TeaDeskModel" ({ cls := "TeaDeskModel", name := "again", desc := "()V" } : Jvm.MethodName) ({ cls := "TeaDeskModel", name := "again", desc := "()V" } : Jvm.MethodName)) ∈ lw_all := lw_g (lw_at lw_m2 166 rfl) rfl
theorem q423 : (Jvm.Cond.code ({ cls := "TeaDeskModel", name := "again", desc := "()V" } : Jvm.MethodName) prog_10_method_10_code (1 : Nat) (Option.none : Option Jvm.ClassFile.FieldType)) ∈ lw_all := lw_g (lw_at lw_m2 167 rfl) rfl
theorem q425 : (Jvm.Cond.instanceMethod ({ cls := "TeaDeskModel", name := "out", desc := "(I)I" } : Jvm.MethodName)) ∈ lw_all := lw_g (lw_at lw_m2 169 rfl) rfl
theorem q426 : (Jvm.Cond.selects "TeaDeskModel" ({ cls := "TeaDeskModel", name := "out", desc := "(I)I" } : Jvm.MethodName) ({ cls := "TeaDeskModel", name := "out", desc := "(I)I" } : Jvm.MethodName)) ∈ lw_all := lw_g (lw_at lw_m2 170 rfl) rfl
theorem q427 : (Jvm.Cond.code ({ cls := "TeaDeskModel", name := "out", desc := "(I)I" } : Jvm.MethodName) prog_10_method_11_code (3 : Nat) (Option.some Jvm.ClassFile.FieldType.int)) ∈ lw_all := lw_g (lw_at lw_m2 171 rfl) rfl
theorem in_X1 : ∀ w ∈ wsX10, w ∈ lw_all := lw_in wsX10 [375, 377, 379, 381, 383] (by decide +kernel) (by decide +kernel)
/-! names: X2.TEAEngine -/
/-! TEAEngine -/
def RX2 : String := "TEAEngine"
def TX2 : u_T := fun k => match k with
  | 0 => ("TEAEngine", "_a", "I", false)
  | 1 => ("TEAEngine", "_b", "I", false)
  | 2 => ("TEAEngine", "_c", "I", false)
  | 3 => ("TEAEngine", "_d", "I", false)
  | 4 => ("TEAEngine", "_initialised", "Z", false)
  | _ => ("TEAEngine", "_forEncryption", "Z", false)
def tyX2 : Nat → FieldType := fun k => match k with
  | 0 => .int
  | 1 => .int
  | 2 => .int
  | 3 => .int
  | 4 => .boolean
  | _ => .boolean
abbrev wsX20 : List Cond := u_ws RX2 TX2 6
theorem nmX2 : ∀ a, a < 6 → ∀ b, b < 6 → a ≠ b → (TX2 a).2.1 ≠ (TX2 b).2.1 := by decide +kernel
theorem tyX2_ok : ∀ k, k < 6 → parseFieldDescriptor (TX2 k).2.2.1 = some (tyX2 k) := by decide +kernel
abbrev cX2_init : ByteArray := prog_7_method_1_code
def yX2_init : MethodName := ⟨RX2, "<init>", "()V"⟩
theorem dX2_init_0 : decode cX2_init 0 = .ok (.aload_n 0, 1) := dk_42 (dk_by (by decide +kernel))
theorem dX2_init_1 : decode cX2_init 1 = .ok (.invokespecial 1, 3) := dk_183 0 1 (dk_by (by decide +kernel))
theorem dX2_init_4 : decode cX2_init 4 = .ok (.aload_n 0, 1) := dk_42 (dk_by (by decide +kernel))
theorem dX2_init_5 : decode cX2_init 5 = .ok (.iconst 0, 1) := dk_3 (dk_by (by decide +kernel))
theorem dX2_init_6 : decode cX2_init 6 = .ok (.putfield 7, 3) := dk_181 0 7 (dk_by (by decide +kernel))
theorem dX2_init_9 : decode cX2_init 9 = .ok (.return_, 1) := dk_177 (dk_by (by decide +kernel))
abbrev cX2_init_2 : ByteArray := prog_7_method_2_code
def yX2_init_2 : MethodName := ⟨RX2, "init", "(ZLCipherParameters;)V"⟩
theorem dX2_init_2_0 : decode cX2_init_2 0 = .ok (.aload_n 2, 1) := dk_44 (dk_by (by decide +kernel))
theorem dX2_init_2_1 : decode cX2_init_2 1 = .ok (.instanceof 13, 3) := dk_193 0 13 (dk_by (by decide +kernel))
theorem dX2_init_2_4 : decode cX2_init_2 4 = .ok (.ifCond .ne 13, 3) := dk_154 0 13 (dk_by (by decide +kernel))
theorem dX2_init_2_7 : decode cX2_init_2 7 = .ok (.new 15, 3) := dk_187 0 15 (dk_by (by decide +kernel))
theorem dX2_init_2_10 : decode cX2_init_2 10 = .ok (.dup, 1) := dk_89 (dk_by (by decide +kernel))
theorem dX2_init_2_11 : decode cX2_init_2 11 = .ok (.ldc 17, 2) := dk_18 17 (dk_by (by decide +kernel))
theorem dX2_init_2_13 : decode cX2_init_2 13 = .ok (.invokespecial 19, 3) := dk_183 0 19 (dk_by (by decide +kernel))
theorem dX2_init_2_16 : decode cX2_init_2 16 = .ok (.athrow, 1) := dk_191 (dk_by (by decide +kernel))
theorem dX2_init_2_17 : decode cX2_init_2 17 = .ok (.aload_n 0, 1) := dk_42 (dk_by (by decide +kernel))
theorem dX2_init_2_18 : decode cX2_init_2 18 = .ok (.iload_n 1, 1) := dk_27 (dk_by (by decide +kernel))
theorem dX2_init_2_19 : decode cX2_init_2 19 = .ok (.putfield 22, 3) := dk_181 0 22 (dk_by (by decide +kernel))
theorem dX2_init_2_22 : decode cX2_init_2 22 = .ok (.aload_n 0, 1) := dk_42 (dk_by (by decide +kernel))
theorem dX2_init_2_23 : decode cX2_init_2 23 = .ok (.iconst 1, 1) := dk_4 (dk_by (by decide +kernel))
theorem dX2_init_2_24 : decode cX2_init_2 24 = .ok (.putfield 7, 3) := dk_181 0 7 (dk_by (by decide +kernel))
theorem dX2_init_2_27 : decode cX2_init_2 27 = .ok (.aload_n 2, 1) := dk_44 (dk_by (by decide +kernel))
theorem dX2_init_2_28 : decode cX2_init_2 28 = .ok (.checkcast 13, 3) := dk_192 0 13 (dk_by (by decide +kernel))
theorem dX2_init_2_31 : decode cX2_init_2 31 = .ok (.astore_n 3, 1) := dk_78 (dk_by (by decide +kernel))
theorem dX2_init_2_32 : decode cX2_init_2 32 = .ok (.aload_n 0, 1) := dk_42 (dk_by (by decide +kernel))
theorem dX2_init_2_33 : decode cX2_init_2 33 = .ok (.aload_n 3, 1) := dk_45 (dk_by (by decide +kernel))
theorem dX2_init_2_34 : decode cX2_init_2 34 = .ok (.invokevirtual 25, 3) := dk_182 0 25 (dk_by (by decide +kernel))
theorem dX2_init_2_37 : decode cX2_init_2 37 = .ok (.invokevirtual 29, 3) := dk_182 0 29 (dk_by (by decide +kernel))
theorem dX2_init_2_40 : decode cX2_init_2 40 = .ok (.return_, 1) := dk_177 (dk_by (by decide +kernel))
abbrev cX2_setKey : ByteArray := prog_7_method_4_code
def yX2_setKey : MethodName := ⟨RX2, "setKey", "([B)V"⟩
theorem dX2_setKey_0 : decode cX2_setKey 0 = .ok (.aload_n 1, 1) := dk_43 (dk_by (by decide +kernel))
theorem dX2_setKey_1 : decode cX2_setKey 1 = .ok (.arraylength, 1) := dk_190 (dk_by (by decide +kernel))
theorem dX2_setKey_2 : decode cX2_setKey 2 = .ok (.bipush 16, 2) := dk_16 16 (dk_by (by decide +kernel))
theorem dX2_setKey_4 : decode cX2_setKey 4 = .ok (.if_icmp .eq 13, 3) := dk_159 0 13 (dk_by (by decide +kernel))
theorem dX2_setKey_7 : decode cX2_setKey 7 = .ok (.new 15, 3) := dk_187 0 15 (dk_by (by decide +kernel))
theorem dX2_setKey_10 : decode cX2_setKey 10 = .ok (.dup, 1) := dk_89 (dk_by (by decide +kernel))
theorem dX2_setKey_11 : decode cX2_setKey 11 = .ok (.ldc 53, 2) := dk_18 53 (dk_by (by decide +kernel))
theorem dX2_setKey_13 : decode cX2_setKey 13 = .ok (.invokespecial 19, 3) := dk_183 0 19 (dk_by (by decide +kernel))
theorem dX2_setKey_16 : decode cX2_setKey 16 = .ok (.athrow, 1) := dk_191 (dk_by (by decide +kernel))
theorem dX2_setKey_17 : decode cX2_setKey 17 = .ok (.aload_n 0, 1) := dk_42 (dk_by (by decide +kernel))
theorem dX2_setKey_18 : decode cX2_setKey 18 = .ok (.aload_n 0, 1) := dk_42 (dk_by (by decide +kernel))
theorem dX2_setKey_19 : decode cX2_setKey 19 = .ok (.aload_n 1, 1) := dk_43 (dk_by (by decide +kernel))
theorem dX2_setKey_20 : decode cX2_setKey 20 = .ok (.iconst 0, 1) := dk_3 (dk_by (by decide +kernel))
theorem dX2_setKey_21 : decode cX2_setKey 21 = .ok (.invokevirtual 55, 3) := dk_182 0 55 (dk_by (by decide +kernel))
theorem dX2_setKey_24 : decode cX2_setKey 24 = .ok (.putfield 59, 3) := dk_181 0 59 (dk_by (by decide +kernel))
theorem dX2_setKey_27 : decode cX2_setKey 27 = .ok (.aload_n 0, 1) := dk_42 (dk_by (by decide +kernel))
theorem dX2_setKey_28 : decode cX2_setKey 28 = .ok (.aload_n 0, 1) := dk_42 (dk_by (by decide +kernel))
theorem dX2_setKey_29 : decode cX2_setKey 29 = .ok (.aload_n 1, 1) := dk_43 (dk_by (by decide +kernel))
theorem dX2_setKey_30 : decode cX2_setKey 30 = .ok (.iconst 4, 1) := dk_7 (dk_by (by decide +kernel))
theorem dX2_setKey_31 : decode cX2_setKey 31 = .ok (.invokevirtual 55, 3) := dk_182 0 55 (dk_by (by decide +kernel))
theorem dX2_setKey_34 : decode cX2_setKey 34 = .ok (.putfield 63, 3) := dk_181 0 63 (dk_by (by decide +kernel))
theorem dX2_setKey_37 : decode cX2_setKey 37 = .ok (.aload_n 0, 1) := dk_42 (dk_by (by decide +kernel))
theorem dX2_setKey_38 : decode cX2_setKey 38 = .ok (.aload_n 0, 1) := dk_42 (dk_by (by decide +kernel))
theorem dX2_setKey_39 : decode cX2_setKey 39 = .ok (.aload_n 1, 1) := dk_43 (dk_by (by decide +kernel))
theorem dX2_setKey_40 : decode cX2_setKey 40 = .ok (.bipush 8, 2) := dk_16 8 (dk_by (by decide +kernel))
theorem dX2_setKey_42 : decode cX2_setKey 42 = .ok (.invokevirtual 55, 3) := dk_182 0 55 (dk_by (by decide +kernel))
theorem dX2_setKey_45 : decode cX2_setKey 45 = .ok (.putfield 66, 3) := dk_181 0 66 (dk_by (by decide +kernel))
theorem dX2_setKey_48 : decode cX2_setKey 48 = .ok (.aload_n 0, 1) := dk_42 (dk_by (by decide +kernel))
theorem dX2_setKey_49 : decode cX2_setKey 49 = .ok (.aload_n 0, 1) := dk_42 (dk_by (by decide +kernel))
theorem dX2_setKey_50 : decode cX2_setKey 50 = .ok (.aload_n 1, 1) := dk_43 (dk_by (by decide +kernel))
theorem dX2_setKey_51 : decode cX2_setKey 51 = .ok (.bipush 12, 2) := dk_16 12 (dk_by (by decide +kernel))
theorem dX2_setKey_53 : decode cX2_setKey 53 = .ok (.invokevirtual 55, 3) := dk_182 0 55 (dk_by (by decide +kernel))
theorem dX2_setKey_56 : decode cX2_setKey 56 = .ok (.putfield 69, 3) := dk_181 0 69 (dk_by (by decide +kernel))
theorem dX2_setKey_59 : decode cX2_setKey 59 = .ok (.return_, 1) := dk_177 (dk_by (by decide +kernel))
abbrev cX2_bytesToInt : ByteArray := prog_7_method_7_code
def yX2_bytesToInt : MethodName := ⟨RX2, "bytesToInt", "([BI)I"⟩
theorem dX2_bytesToInt_0 : decode cX2_bytesToInt 0 = .ok (.aload_n 1, 1) := dk_43 (dk_by (by decide +kernel))
theorem dX2_bytesToInt_1 : decode cX2_bytesToInt 1 = .ok (.iload_n 2, 1) := dk_28 (dk_by (by decide +kernel))
theorem dX2_bytesToInt_2 : decode cX2_bytesToInt 2 = .ok (.iinc 2 1, 3) := dk_132 2 1 (dk_by (by decide +kernel))
theorem dX2_bytesToInt_5 : decode cX2_bytesToInt 5 = .ok (.baload, 1) := dk_51 (dk_by (by decide +kernel))
theorem dX2_bytesToInt_6 : decode cX2_bytesToInt 6 = .ok (.bipush 24, 2) := dk_16 24 (dk_by (by decide +kernel))
theorem dX2_bytesToInt_8 : decode cX2_bytesToInt 8 = .ok (.ishl, 1) := dk_120 (dk_by (by decide +kernel))
theorem dX2_bytesToInt_9 : decode cX2_bytesToInt 9 = .ok (.aload_n 1, 1) := dk_43 (dk_by (by decide +kernel))
theorem dX2_bytesToInt_10 : decode cX2_bytesToInt 10 = .ok (.iload_n 2, 1) := dk_28 (dk_by (by decide +kernel))
theorem dX2_bytesToInt_11 : decode cX2_bytesToInt 11 = .ok (.iinc 2 1, 3) := dk_132 2 1 (dk_by (by decide +kernel))
theorem dX2_bytesToInt_14 : decode cX2_bytesToInt 14 = .ok (.baload, 1) := dk_51 (dk_by (by decide +kernel))
theorem dX2_bytesToInt_15 : decode cX2_bytesToInt 15 = .ok (.sipush 255, 3) := dk_17 0 255 (dk_by (by decide +kernel))
theorem dX2_bytesToInt_18 : decode cX2_bytesToInt 18 = .ok (.iand, 1) := dk_126 (dk_by (by decide +kernel))
theorem dX2_bytesToInt_19 : decode cX2_bytesToInt 19 = .ok (.bipush 16, 2) := dk_16 16 (dk_by (by decide +kernel))
theorem dX2_bytesToInt_21 : decode cX2_bytesToInt 21 = .ok (.ishl, 1) := dk_120 (dk_by (by decide +kernel))
theorem dX2_bytesToInt_22 : decode cX2_bytesToInt 22 = .ok (.ior, 1) := dk_128 (dk_by (by decide +kernel))
theorem dX2_bytesToInt_23 : decode cX2_bytesToInt 23 = .ok (.aload_n 1, 1) := dk_43 (dk_by (by decide +kernel))
theorem dX2_bytesToInt_24 : decode cX2_bytesToInt 24 = .ok (.iload_n 2, 1) := dk_28 (dk_by (by decide +kernel))
theorem dX2_bytesToInt_25 : decode cX2_bytesToInt 25 = .ok (.iinc 2 1, 3) := dk_132 2 1 (dk_by (by decide +kernel))
theorem dX2_bytesToInt_28 : decode cX2_bytesToInt 28 = .ok (.baload, 1) := dk_51 (dk_by (by decide +kernel))
theorem dX2_bytesToInt_29 : decode cX2_bytesToInt 29 = .ok (.sipush 255, 3) := dk_17 0 255 (dk_by (by decide +kernel))
theorem dX2_bytesToInt_32 : decode cX2_bytesToInt 32 = .ok (.iand, 1) := dk_126 (dk_by (by decide +kernel))
theorem dX2_bytesToInt_33 : decode cX2_bytesToInt 33 = .ok (.bipush 8, 2) := dk_16 8 (dk_by (by decide +kernel))
theorem dX2_bytesToInt_35 : decode cX2_bytesToInt 35 = .ok (.ishl, 1) := dk_120 (dk_by (by decide +kernel))
theorem dX2_bytesToInt_36 : decode cX2_bytesToInt 36 = .ok (.ior, 1) := dk_128 (dk_by (by decide +kernel))
theorem dX2_bytesToInt_37 : decode cX2_bytesToInt 37 = .ok (.aload_n 1, 1) := dk_43 (dk_by (by decide +kernel))
theorem dX2_bytesToInt_38 : decode cX2_bytesToInt 38 = .ok (.iload_n 2, 1) := dk_28 (dk_by (by decide +kernel))
theorem dX2_bytesToInt_39 : decode cX2_bytesToInt 39 = .ok (.baload, 1) := dk_51 (dk_by (by decide +kernel))
theorem dX2_bytesToInt_40 : decode cX2_bytesToInt 40 = .ok (.sipush 255, 3) := dk_17 0 255 (dk_by (by decide +kernel))
theorem dX2_bytesToInt_43 : decode cX2_bytesToInt 43 = .ok (.iand, 1) := dk_126 (dk_by (by decide +kernel))
theorem dX2_bytesToInt_44 : decode cX2_bytesToInt 44 = .ok (.ior, 1) := dk_128 (dk_by (by decide +kernel))
theorem dX2_bytesToInt_45 : decode cX2_bytesToInt 45 = .ok (.ireturn, 1) := dk_172 (dk_by (by decide +kernel))
abbrev cX2_processBlock : ByteArray := prog_7_method_3_code
def yX2_processBlock : MethodName := ⟨RX2, "processBlock", "([BI[BI)I"⟩
theorem dX2_processBlock_0 : decode cX2_processBlock 0 = .ok (.aload_n 0, 1) := dk_42 (dk_by (by decide +kernel))
theorem dX2_processBlock_1 : decode cX2_processBlock 1 = .ok (.getfield 7, 3) := dk_180 0 7 (dk_by (by decide +kernel))
theorem dX2_processBlock_4 : decode cX2_processBlock 4 = .ok (.ifCond .ne 13, 3) := dk_154 0 13 (dk_by (by decide +kernel))
theorem dX2_processBlock_7 : decode cX2_processBlock 7 = .ok (.new 33, 3) := dk_187 0 33 (dk_by (by decide +kernel))
theorem dX2_processBlock_10 : decode cX2_processBlock 10 = .ok (.dup, 1) := dk_89 (dk_by (by decide +kernel))
theorem dX2_processBlock_11 : decode cX2_processBlock 11 = .ok (.ldc 17, 2) := dk_18 17 (dk_by (by decide +kernel))
theorem dX2_processBlock_13 : decode cX2_processBlock 13 = .ok (.invokespecial 35, 3) := dk_183 0 35 (dk_by (by decide +kernel))
theorem dX2_processBlock_16 : decode cX2_processBlock 16 = .ok (.athrow, 1) := dk_191 (dk_by (by decide +kernel))
theorem dX2_processBlock_17 : decode cX2_processBlock 17 = .ok (.iload_n 2, 1) := dk_28 (dk_by (by decide +kernel))
theorem dX2_processBlock_18 : decode cX2_processBlock 18 = .ok (.bipush 8, 2) := dk_16 8 (dk_by (by decide +kernel))
theorem dX2_processBlock_20 : decode cX2_processBlock 20 = .ok (.iadd, 1) := dk_96 (dk_by (by decide +kernel))
theorem dX2_processBlock_21 : decode cX2_processBlock 21 = .ok (.aload_n 1, 1) := dk_43 (dk_by (by decide +kernel))
theorem dX2_processBlock_22 : decode cX2_processBlock 22 = .ok (.arraylength, 1) := dk_190 (dk_by (by decide +kernel))
theorem dX2_processBlock_23 : decode cX2_processBlock 23 = .ok (.if_icmp .le 13, 3) := dk_164 0 13 (dk_by (by decide +kernel))
theorem dX2_processBlock_26 : decode cX2_processBlock 26 = .ok (.new 36, 3) := dk_187 0 36 (dk_by (by decide +kernel))
theorem dX2_processBlock_29 : decode cX2_processBlock 29 = .ok (.dup, 1) := dk_89 (dk_by (by decide +kernel))
theorem dX2_processBlock_30 : decode cX2_processBlock 30 = .ok (.ldc 38, 2) := dk_18 38 (dk_by (by decide +kernel))
theorem dX2_processBlock_32 : decode cX2_processBlock 32 = .ok (.invokespecial 40, 3) := dk_183 0 40 (dk_by (by decide +kernel))
theorem dX2_processBlock_35 : decode cX2_processBlock 35 = .ok (.athrow, 1) := dk_191 (dk_by (by decide +kernel))
theorem dX2_processBlock_36 : decode cX2_processBlock 36 = .ok (.iload 4, 2) := dk_21 4 (dk_by (by decide +kernel))
theorem dX2_processBlock_38 : decode cX2_processBlock 38 = .ok (.bipush 8, 2) := dk_16 8 (dk_by (by decide +kernel))
theorem dX2_processBlock_40 : decode cX2_processBlock 40 = .ok (.iadd, 1) := dk_96 (dk_by (by decide +kernel))
theorem dX2_processBlock_41 : decode cX2_processBlock 41 = .ok (.aload_n 3, 1) := dk_45 (dk_by (by decide +kernel))
theorem dX2_processBlock_42 : decode cX2_processBlock 42 = .ok (.arraylength, 1) := dk_190 (dk_by (by decide +kernel))
theorem dX2_processBlock_43 : decode cX2_processBlock 43 = .ok (.if_icmp .le 13, 3) := dk_164 0 13 (dk_by (by decide +kernel))
theorem dX2_processBlock_46 : decode cX2_processBlock 46 = .ok (.new 41, 3) := dk_187 0 41 (dk_by (by decide +kernel))
theorem dX2_processBlock_49 : decode cX2_processBlock 49 = .ok (.dup, 1) := dk_89 (dk_by (by decide +kernel))
theorem dX2_processBlock_50 : decode cX2_processBlock 50 = .ok (.ldc 43, 2) := dk_18 43 (dk_by (by decide +kernel))
theorem dX2_processBlock_52 : decode cX2_processBlock 52 = .ok (.invokespecial 45, 3) := dk_183 0 45 (dk_by (by decide +kernel))
theorem dX2_processBlock_55 : decode cX2_processBlock 55 = .ok (.athrow, 1) := dk_191 (dk_by (by decide +kernel))
theorem dX2_processBlock_56 : decode cX2_processBlock 56 = .ok (.aload_n 0, 1) := dk_42 (dk_by (by decide +kernel))
theorem dX2_processBlock_57 : decode cX2_processBlock 57 = .ok (.getfield 22, 3) := dk_180 0 22 (dk_by (by decide +kernel))
theorem dX2_processBlock_60 : decode cX2_processBlock 60 = .ok (.ifCond .eq 15, 3) := dk_153 0 15 (dk_by (by decide +kernel))
theorem dX2_processBlock_63 : decode cX2_processBlock 63 = .ok (.aload_n 0, 1) := dk_42 (dk_by (by decide +kernel))
theorem dX2_processBlock_64 : decode cX2_processBlock 64 = .ok (.aload_n 1, 1) := dk_43 (dk_by (by decide +kernel))
theorem dX2_processBlock_65 : decode cX2_processBlock 65 = .ok (.iload_n 2, 1) := dk_28 (dk_by (by decide +kernel))
theorem dX2_processBlock_66 : decode cX2_processBlock 66 = .ok (.aload_n 3, 1) := dk_45 (dk_by (by decide +kernel))
theorem dX2_processBlock_67 : decode cX2_processBlock 67 = .ok (.iload 4, 2) := dk_21 4 (dk_by (by decide +kernel))
theorem dX2_processBlock_69 : decode cX2_processBlock 69 = .ok (.invokevirtual 46, 3) := dk_182 0 46 (dk_by (by decide +kernel))
theorem dX2_processBlock_72 : decode cX2_processBlock 72 = .ok (.goto 12, 3) := dk_167 0 12 (dk_by (by decide +kernel))
theorem dX2_processBlock_75 : decode cX2_processBlock 75 = .ok (.aload_n 0, 1) := dk_42 (dk_by (by decide +kernel))
theorem dX2_processBlock_76 : decode cX2_processBlock 76 = .ok (.aload_n 1, 1) := dk_43 (dk_by (by decide +kernel))
theorem dX2_processBlock_77 : decode cX2_processBlock 77 = .ok (.iload_n 2, 1) := dk_28 (dk_by (by decide +kernel))
theorem dX2_processBlock_78 : decode cX2_processBlock 78 = .ok (.aload_n 3, 1) := dk_45 (dk_by (by decide +kernel))
theorem dX2_processBlock_79 : decode cX2_processBlock 79 = .ok (.iload 4, 2) := dk_21 4 (dk_by (by decide +kernel))
theorem dX2_processBlock_81 : decode cX2_processBlock 81 = .ok (.invokevirtual 50, 3) := dk_182 0 50 (dk_by (by decide +kernel))
theorem dX2_processBlock_84 : decode cX2_processBlock 84 = .ok (.ireturn, 1) := dk_172 (dk_by (by decide +kernel))
abbrev cX2_encryptBlock : ByteArray := prog_7_method_5_code
def yX2_encryptBlock : MethodName := ⟨RX2, "encryptBlock", "([BI[BI)I"⟩
theorem dX2_encryptBlock_0 : decode cX2_encryptBlock 0 = .ok (.aload_n 0, 1) := dk_42 (dk_by (by decide +kernel))
theorem dX2_encryptBlock_1 : decode cX2_encryptBlock 1 = .ok (.aload_n 1, 1) := dk_43 (dk_by (by decide +kernel))
theorem dX2_encryptBlock_2 : decode cX2_encryptBlock 2 = .ok (.iload_n 2, 1) := dk_28 (dk_by (by decide +kernel))
theorem dX2_encryptBlock_3 : decode cX2_encryptBlock 3 = .ok (.invokevirtual 55, 3) := dk_182 0 55 (dk_by (by decide +kernel))
theorem dX2_encryptBlock_6 : decode cX2_encryptBlock 6 = .ok (.istore 5, 2) := dk_54 5 (dk_by (by decide +kernel))
theorem dX2_encryptBlock_8 : decode cX2_encryptBlock 8 = .ok (.aload_n 0, 1) := dk_42 (dk_by (by decide +kernel))
theorem dX2_encryptBlock_9 : decode cX2_encryptBlock 9 = .ok (.aload_n 1, 1) := dk_43 (dk_by (by decide +kernel))
theorem dX2_encryptBlock_10 : decode cX2_encryptBlock 10 = .ok (.iload_n 2, 1) := dk_28 (dk_by (by decide +kernel))
theorem dX2_encryptBlock_11 : decode cX2_encryptBlock 11 = .ok (.iconst 4, 1) := dk_7 (dk_by (by decide +kernel))
theorem dX2_encryptBlock_12 : decode cX2_encryptBlock 12 = .ok (.iadd, 1) := dk_96 (dk_by (by decide +kernel))
theorem dX2_encryptBlock_13 : decode cX2_encryptBlock 13 = .ok (.invokevirtual 55, 3) := dk_182 0 55 (dk_by (by decide +kernel))
theorem dX2_encryptBlock_16 : decode cX2_encryptBlock 16 = .ok (.istore 6, 2) := dk_54 6 (dk_by (by decide +kernel))
theorem dX2_encryptBlock_18 : decode cX2_encryptBlock 18 = .ok (.iconst 0, 1) := dk_3 (dk_by (by decide +kernel))
theorem dX2_encryptBlock_19 : decode cX2_encryptBlock 19 = .ok (.istore 7, 2) := dk_54 7 (dk_by (by decide +kernel))
theorem dX2_encryptBlock_21 : decode cX2_encryptBlock 21 = .ok (.iconst 0, 1) := dk_3 (dk_by (by decide +kernel))
theorem dX2_encryptBlock_22 : decode cX2_encryptBlock 22 = .ok (.istore 8, 2) := dk_54 8 (dk_by (by decide +kernel))
theorem dX2_encryptBlock_24 : decode cX2_encryptBlock 24 = .ok (.iload 8, 2) := dk_21 8 (dk_by (by decide +kernel))
theorem dX2_encryptBlock_26 : decode cX2_encryptBlock 26 = .ok (.bipush 32, 2) := dk_16 32 (dk_by (by decide +kernel))
theorem dX2_encryptBlock_28 : decode cX2_encryptBlock 28 = .ok (.if_icmp .eq 76, 3) := dk_159 0 76 (dk_by (by decide +kernel))
theorem dX2_encryptBlock_31 : decode cX2_encryptBlock 31 = .ok (.iload 7, 2) := dk_21 7 (dk_by (by decide +kernel))
theorem dX2_encryptBlock_33 : decode cX2_encryptBlock 33 = .ok (.ldc 72, 2) := dk_18 72 (dk_by (by decide +kernel))
theorem dX2_encryptBlock_35 : decode cX2_encryptBlock 35 = .ok (.isub, 1) := dk_100 (dk_by (by decide +kernel))
theorem dX2_encryptBlock_36 : decode cX2_encryptBlock 36 = .ok (.istore 7, 2) := dk_54 7 (dk_by (by decide +kernel))
theorem dX2_encryptBlock_38 : decode cX2_encryptBlock 38 = .ok (.iload 5, 2) := dk_21 5 (dk_by (by decide +kernel))
theorem dX2_encryptBlock_40 : decode cX2_encryptBlock 40 = .ok (.iload 6, 2) := dk_21 6 (dk_by (by decide +kernel))
theorem dX2_encryptBlock_42 : decode cX2_encryptBlock 42 = .ok (.iconst 4, 1) := dk_7 (dk_by (by decide +kernel))
theorem dX2_encryptBlock_43 : decode cX2_encryptBlock 43 = .ok (.ishl, 1) := dk_120 (dk_by (by decide +kernel))
theorem dX2_encryptBlock_44 : decode cX2_encryptBlock 44 = .ok (.aload_n 0, 1) := dk_42 (dk_by (by decide +kernel))
theorem dX2_encryptBlock_45 : decode cX2_encryptBlock 45 = .ok (.getfield 59, 3) := dk_180 0 59 (dk_by (by decide +kernel))
theorem dX2_encryptBlock_48 : decode cX2_encryptBlock 48 = .ok (.iadd, 1) := dk_96 (dk_by (by decide +kernel))
theorem dX2_encryptBlock_49 : decode cX2_encryptBlock 49 = .ok (.iload 6, 2) := dk_21 6 (dk_by (by decide +kernel))
theorem dX2_encryptBlock_51 : decode cX2_encryptBlock 51 = .ok (.iload 7, 2) := dk_21 7 (dk_by (by decide +kernel))
theorem dX2_encryptBlock_53 : decode cX2_encryptBlock 53 = .ok (.iadd, 1) := dk_96 (dk_by (by decide +kernel))
theorem dX2_encryptBlock_54 : decode cX2_encryptBlock 54 = .ok (.ixor, 1) := dk_130 (dk_by (by decide +kernel))
theorem dX2_encryptBlock_55 : decode cX2_encryptBlock 55 = .ok (.iload 6, 2) := dk_21 6 (dk_by (by decide +kernel))
theorem dX2_encryptBlock_57 : decode cX2_encryptBlock 57 = .ok (.iconst 5, 1) := dk_8 (dk_by (by decide +kernel))
theorem dX2_encryptBlock_58 : decode cX2_encryptBlock 58 = .ok (.iushr, 1) := dk_124 (dk_by (by decide +kernel))
theorem dX2_encryptBlock_59 : decode cX2_encryptBlock 59 = .ok (.aload_n 0, 1) := dk_42 (dk_by (by decide +kernel))
theorem dX2_encryptBlock_60 : decode cX2_encryptBlock 60 = .ok (.getfield 63, 3) := dk_180 0 63 (dk_by (by decide +kernel))
theorem dX2_encryptBlock_63 : decode cX2_encryptBlock 63 = .ok (.iadd, 1) := dk_96 (dk_by (by decide +kernel))
theorem dX2_encryptBlock_64 : decode cX2_encryptBlock 64 = .ok (.ixor, 1) := dk_130 (dk_by (by decide +kernel))
theorem dX2_encryptBlock_65 : decode cX2_encryptBlock 65 = .ok (.iadd, 1) := dk_96 (dk_by (by decide +kernel))
theorem dX2_encryptBlock_66 : decode cX2_encryptBlock 66 = .ok (.istore 5, 2) := dk_54 5 (dk_by (by decide +kernel))
theorem dX2_encryptBlock_68 : decode cX2_encryptBlock 68 = .ok (.iload 6, 2) := dk_21 6 (dk_by (by decide +kernel))
theorem dX2_encryptBlock_70 : decode cX2_encryptBlock 70 = .ok (.iload 5, 2) := dk_21 5 (dk_by (by decide +kernel))
theorem dX2_encryptBlock_72 : decode cX2_encryptBlock 72 = .ok (.iconst 4, 1) := dk_7 (dk_by (by decide +kernel))
theorem dX2_encryptBlock_73 : decode cX2_encryptBlock 73 = .ok (.ishl, 1) := dk_120 (dk_by (by decide +kernel))
theorem dX2_encryptBlock_74 : decode cX2_encryptBlock 74 = .ok (.aload_n 0, 1) := dk_42 (dk_by (by decide +kernel))
theorem dX2_encryptBlock_75 : decode cX2_encryptBlock 75 = .ok (.getfield 66, 3) := dk_180 0 66 (dk_by (by decide +kernel))
theorem dX2_encryptBlock_78 : decode cX2_encryptBlock 78 = .ok (.iadd, 1) := dk_96 (dk_by (by decide +kernel))
theorem dX2_encryptBlock_79 : decode cX2_encryptBlock 79 = .ok (.iload 5, 2) := dk_21 5 (dk_by (by decide +kernel))
theorem dX2_encryptBlock_81 : decode cX2_encryptBlock 81 = .ok (.iload 7, 2) := dk_21 7 (dk_by (by decide +kernel))
theorem dX2_encryptBlock_83 : decode cX2_encryptBlock 83 = .ok (.iadd, 1) := dk_96 (dk_by (by decide +kernel))
theorem dX2_encryptBlock_84 : decode cX2_encryptBlock 84 = .ok (.ixor, 1) := dk_130 (dk_by (by decide +kernel))
theorem dX2_encryptBlock_85 : decode cX2_encryptBlock 85 = .ok (.iload 5, 2) := dk_21 5 (dk_by (by decide +kernel))
theorem dX2_encryptBlock_87 : decode cX2_encryptBlock 87 = .ok (.iconst 5, 1) := dk_8 (dk_by (by decide +kernel))
theorem dX2_encryptBlock_88 : decode cX2_encryptBlock 88 = .ok (.iushr, 1) := dk_124 (dk_by (by decide +kernel))
theorem dX2_encryptBlock_89 : decode cX2_encryptBlock 89 = .ok (.aload_n 0, 1) := dk_42 (dk_by (by decide +kernel))
theorem dX2_encryptBlock_90 : decode cX2_encryptBlock 90 = .ok (.getfield 69, 3) := dk_180 0 69 (dk_by (by decide +kernel))
theorem dX2_encryptBlock_93 : decode cX2_encryptBlock 93 = .ok (.iadd, 1) := dk_96 (dk_by (by decide +kernel))
theorem dX2_encryptBlock_94 : decode cX2_encryptBlock 94 = .ok (.ixor, 1) := dk_130 (dk_by (by decide +kernel))
theorem dX2_encryptBlock_95 : decode cX2_encryptBlock 95 = .ok (.iadd, 1) := dk_96 (dk_by (by decide +kernel))
theorem dX2_encryptBlock_96 : decode cX2_encryptBlock 96 = .ok (.istore 6, 2) := dk_54 6 (dk_by (by decide +kernel))
theorem dX2_encryptBlock_98 : decode cX2_encryptBlock 98 = .ok (.iinc 8 1, 3) := dk_132 8 1 (dk_by (by decide +kernel))
theorem dX2_encryptBlock_101 : decode cX2_encryptBlock 101 = .ok (.goto (-77), 3) := dk_167 255 179 (dk_by (by decide +kernel))
theorem dX2_encryptBlock_104 : decode cX2_encryptBlock 104 = .ok (.aload_n 0, 1) := dk_42 (dk_by (by decide +kernel))
theorem dX2_encryptBlock_105 : decode cX2_encryptBlock 105 = .ok (.iload 5, 2) := dk_21 5 (dk_by (by decide +kernel))
theorem dX2_encryptBlock_107 : decode cX2_encryptBlock 107 = .ok (.aload_n 3, 1) := dk_45 (dk_by (by decide +kernel))
theorem dX2_encryptBlock_108 : decode cX2_encryptBlock 108 = .ok (.iload 4, 2) := dk_21 4 (dk_by (by decide +kernel))
theorem dX2_encryptBlock_110 : decode cX2_encryptBlock 110 = .ok (.invokevirtual 73, 3) := dk_182 0 73 (dk_by (by decide +kernel))
theorem dX2_encryptBlock_113 : decode cX2_encryptBlock 113 = .ok (.aload_n 0, 1) := dk_42 (dk_by (by decide +kernel))
theorem dX2_encryptBlock_114 : decode cX2_encryptBlock 114 = .ok (.iload 6, 2) := dk_21 6 (dk_by (by decide +kernel))
theorem dX2_encryptBlock_116 : decode cX2_encryptBlock 116 = .ok (.aload_n 3, 1) := dk_45 (dk_by (by decide +kernel))
theorem dX2_encryptBlock_117 : decode cX2_encryptBlock 117 = .ok (.iload 4, 2) := dk_21 4 (dk_by (by decide +kernel))
theorem dX2_encryptBlock_119 : decode cX2_encryptBlock 119 = .ok (.iconst 4, 1) := dk_7 (dk_by (by decide +kernel))
theorem dX2_encryptBlock_120 : decode cX2_encryptBlock 120 = .ok (.iadd, 1) := dk_96 (dk_by (by decide +kernel))
theorem dX2_encryptBlock_121 : decode cX2_encryptBlock 121 = .ok (.invokevirtual 73, 3) := dk_182 0 73 (dk_by (by decide +kernel))
theorem dX2_encryptBlock_124 : decode cX2_encryptBlock 124 = .ok (.bipush 8, 2) := dk_16 8 (dk_by (by decide +kernel))
theorem dX2_encryptBlock_126 : decode cX2_encryptBlock 126 = .ok (.ireturn, 1) := dk_172 (dk_by (by decide +kernel))
abbrev cX2_unpackInt : ByteArray := prog_7_method_8_code
def yX2_unpackInt : MethodName := ⟨RX2, "unpackInt", "(I[BI)V"⟩
theorem dX2_unpackInt_0 : decode cX2_unpackInt 0 = .ok (.aload_n 2, 1) := dk_44 (dk_by (by decide +kernel))
theorem dX2_unpackInt_1 : decode cX2_unpackInt 1 = .ok (.iload_n 3, 1) := dk_29 (dk_by (by decide +kernel))
theorem dX2_unpackInt_2 : decode cX2_unpackInt 2 = .ok (.iinc 3 1, 3) := dk_132 3 1 (dk_by (by decide +kernel))
theorem dX2_unpackInt_5 : decode cX2_unpackInt 5 = .ok (.iload_n 1, 1) := dk_27 (dk_by (by decide +kernel))
theorem dX2_unpackInt_6 : decode cX2_unpackInt 6 = .ok (.bipush 24, 2) := dk_16 24 (dk_by (by decide +kernel))
theorem dX2_unpackInt_8 : decode cX2_unpackInt 8 = .ok (.iushr, 1) := dk_124 (dk_by (by decide +kernel))
theorem dX2_unpackInt_9 : decode cX2_unpackInt 9 = .ok (.i2b, 1) := dk_145 (dk_by (by decide +kernel))
theorem dX2_unpackInt_10 : decode cX2_unpackInt 10 = .ok (.bastore, 1) := dk_84 (dk_by (by decide +kernel))
theorem dX2_unpackInt_11 : decode cX2_unpackInt 11 = .ok (.aload_n 2, 1) := dk_44 (dk_by (by decide +kernel))
theorem dX2_unpackInt_12 : decode cX2_unpackInt 12 = .ok (.iload_n 3, 1) := dk_29 (dk_by (by decide +kernel))
theorem dX2_unpackInt_13 : decode cX2_unpackInt 13 = .ok (.iinc 3 1, 3) := dk_132 3 1 (dk_by (by decide +kernel))
theorem dX2_unpackInt_16 : decode cX2_unpackInt 16 = .ok (.iload_n 1, 1) := dk_27 (dk_by (by decide +kernel))
theorem dX2_unpackInt_17 : decode cX2_unpackInt 17 = .ok (.bipush 16, 2) := dk_16 16 (dk_by (by decide +kernel))
theorem dX2_unpackInt_19 : decode cX2_unpackInt 19 = .ok (.iushr, 1) := dk_124 (dk_by (by decide +kernel))
theorem dX2_unpackInt_20 : decode cX2_unpackInt 20 = .ok (.i2b, 1) := dk_145 (dk_by (by decide +kernel))
theorem dX2_unpackInt_21 : decode cX2_unpackInt 21 = .ok (.bastore, 1) := dk_84 (dk_by (by decide +kernel))
theorem dX2_unpackInt_22 : decode cX2_unpackInt 22 = .ok (.aload_n 2, 1) := dk_44 (dk_by (by decide +kernel))
theorem dX2_unpackInt_23 : decode cX2_unpackInt 23 = .ok (.iload_n 3, 1) := dk_29 (dk_by (by decide +kernel))
theorem dX2_unpackInt_24 : decode cX2_unpackInt 24 = .ok (.iinc 3 1, 3) := dk_132 3 1 (dk_by (by decide +kernel))
theorem dX2_unpackInt_27 : decode cX2_unpackInt 27 = .ok (.iload_n 1, 1) := dk_27 (dk_by (by decide +kernel))
theorem dX2_unpackInt_28 : decode cX2_unpackInt 28 = .ok (.bipush 8, 2) := dk_16 8 (dk_by (by decide +kernel))
theorem dX2_unpackInt_30 : decode cX2_unpackInt 30 = .ok (.iushr, 1) := dk_124 (dk_by (by decide +kernel))
theorem dX2_unpackInt_31 : decode cX2_unpackInt 31 = .ok (.i2b, 1) := dk_145 (dk_by (by decide +kernel))
theorem dX2_unpackInt_32 : decode cX2_unpackInt 32 = .ok (.bastore, 1) := dk_84 (dk_by (by decide +kernel))
theorem dX2_unpackInt_33 : decode cX2_unpackInt 33 = .ok (.aload_n 2, 1) := dk_44 (dk_by (by decide +kernel))
theorem dX2_unpackInt_34 : decode cX2_unpackInt 34 = .ok (.iload_n 3, 1) := dk_29 (dk_by (by decide +kernel))
theorem dX2_unpackInt_35 : decode cX2_unpackInt 35 = .ok (.iload_n 1, 1) := dk_27 (dk_by (by decide +kernel))
theorem dX2_unpackInt_36 : decode cX2_unpackInt 36 = .ok (.i2b, 1) := dk_145 (dk_by (by decide +kernel))
theorem dX2_unpackInt_37 : decode cX2_unpackInt 37 = .ok (.bastore, 1) := dk_84 (dk_by (by decide +kernel))
theorem dX2_unpackInt_38 : decode cX2_unpackInt 38 = .ok (.return_, 1) := dk_177 (dk_by (by decide +kernel))
abbrev cX2_decryptBlock : ByteArray := prog_7_method_6_code
def yX2_decryptBlock : MethodName := ⟨RX2, "decryptBlock", "([BI[BI)I"⟩
theorem dX2_decryptBlock_0 : decode cX2_decryptBlock 0 = .ok (.aload_n 0, 1) := dk_42 (dk_by (by decide +kernel))
theorem dX2_decryptBlock_1 : decode cX2_decryptBlock 1 = .ok (.aload_n 1, 1) := dk_43 (dk_by (by decide +kernel))
theorem dX2_decryptBlock_2 : decode cX2_decryptBlock 2 = .ok (.iload_n 2, 1) := dk_28 (dk_by (by decide +kernel))
theorem dX2_decryptBlock_3 : decode cX2_decryptBlock 3 = .ok (.invokevirtual 55, 3) := dk_182 0 55 (dk_by (by decide +kernel))
theorem dX2_decryptBlock_6 : decode cX2_decryptBlock 6 = .ok (.istore 5, 2) := dk_54 5 (dk_by (by decide +kernel))
theorem dX2_decryptBlock_8 : decode cX2_decryptBlock 8 = .ok (.aload_n 0, 1) := dk_42 (dk_by (by decide +kernel))
theorem dX2_decryptBlock_9 : decode cX2_decryptBlock 9 = .ok (.aload_n 1, 1) := dk_43 (dk_by (by decide +kernel))
theorem dX2_decryptBlock_10 : decode cX2_decryptBlock 10 = .ok (.iload_n 2, 1) := dk_28 (dk_by (by decide +kernel))
theorem dX2_decryptBlock_11 : decode cX2_decryptBlock 11 = .ok (.iconst 4, 1) := dk_7 (dk_by (by decide +kernel))
theorem dX2_decryptBlock_12 : decode cX2_decryptBlock 12 = .ok (.iadd, 1) := dk_96 (dk_by (by decide +kernel))
theorem dX2_decryptBlock_13 : decode cX2_decryptBlock 13 = .ok (.invokevirtual 55, 3) := dk_182 0 55 (dk_by (by decide +kernel))
theorem dX2_decryptBlock_16 : decode cX2_decryptBlock 16 = .ok (.istore 6, 2) := dk_54 6 (dk_by (by decide +kernel))
theorem dX2_decryptBlock_18 : decode cX2_decryptBlock 18 = .ok (.ldc 77, 2) := dk_18 77 (dk_by (by decide +kernel))
theorem dX2_decryptBlock_20 : decode cX2_decryptBlock 20 = .ok (.istore 7, 2) := dk_54 7 (dk_by (by decide +kernel))
theorem dX2_decryptBlock_22 : decode cX2_decryptBlock 22 = .ok (.iconst 0, 1) := dk_3 (dk_by (by decide +kernel))
theorem dX2_decryptBlock_23 : decode cX2_decryptBlock 23 = .ok (.istore 8, 2) := dk_54 8 (dk_by (by decide +kernel))
theorem dX2_decryptBlock_25 : decode cX2_decryptBlock 25 = .ok (.iload 8, 2) := dk_21 8 (dk_by (by decide +kernel))
theorem dX2_decryptBlock_27 : decode cX2_decryptBlock 27 = .ok (.bipush 32, 2) := dk_16 32 (dk_by (by decide +kernel))
theorem dX2_decryptBlock_29 : decode cX2_decryptBlock 29 = .ok (.if_icmp .eq 76, 3) := dk_159 0 76 (dk_by (by decide +kernel))
theorem dX2_decryptBlock_32 : decode cX2_decryptBlock 32 = .ok (.iload 6, 2) := dk_21 6 (dk_by (by decide +kernel))
theorem dX2_decryptBlock_34 : decode cX2_decryptBlock 34 = .ok (.iload 5, 2) := dk_21 5 (dk_by (by decide +kernel))
theorem dX2_decryptBlock_36 : decode cX2_decryptBlock 36 = .ok (.iconst 4, 1) := dk_7 (dk_by (by decide +kernel))
theorem dX2_decryptBlock_37 : decode cX2_decryptBlock 37 = .ok (.ishl, 1) := dk_120 (dk_by (by decide +kernel))
theorem dX2_decryptBlock_38 : decode cX2_decryptBlock 38 = .ok (.aload_n 0, 1) := dk_42 (dk_by (by decide +kernel))
theorem dX2_decryptBlock_39 : decode cX2_decryptBlock 39 = .ok (.getfield 66, 3) := dk_180 0 66 (dk_by (by decide +kernel))
theorem dX2_decryptBlock_42 : decode cX2_decryptBlock 42 = .ok (.iadd, 1) := dk_96 (dk_by (by decide +kernel))
theorem dX2_decryptBlock_43 : decode cX2_decryptBlock 43 = .ok (.iload 5, 2) := dk_21 5 (dk_by (by decide +kernel))
theorem dX2_decryptBlock_45 : decode cX2_decryptBlock 45 = .ok (.iload 7, 2) := dk_21 7 (dk_by (by decide +kernel))
theorem dX2_decryptBlock_47 : decode cX2_decryptBlock 47 = .ok (.iadd, 1) := dk_96 (dk_by (by decide +kernel))
theorem dX2_decryptBlock_48 : decode cX2_decryptBlock 48 = .ok (.ixor, 1) := dk_130 (dk_by (by decide +kernel))
theorem dX2_decryptBlock_49 : decode cX2_decryptBlock 49 = .ok (.iload 5, 2) := dk_21 5 (dk_by (by decide +kernel))
theorem dX2_decryptBlock_51 : decode cX2_decryptBlock 51 = .ok (.iconst 5, 1) := dk_8 (dk_by (by decide +kernel))
theorem dX2_decryptBlock_52 : decode cX2_decryptBlock 52 = .ok (.iushr, 1) := dk_124 (dk_by (by decide +kernel))
theorem dX2_decryptBlock_53 : decode cX2_decryptBlock 53 = .ok (.aload_n 0, 1) := dk_42 (dk_by (by decide +kernel))
theorem dX2_decryptBlock_54 : decode cX2_decryptBlock 54 = .ok (.getfield 69, 3) := dk_180 0 69 (dk_by (by decide +kernel))
theorem dX2_decryptBlock_57 : decode cX2_decryptBlock 57 = .ok (.iadd, 1) := dk_96 (dk_by (by decide +kernel))
theorem dX2_decryptBlock_58 : decode cX2_decryptBlock 58 = .ok (.ixor, 1) := dk_130 (dk_by (by decide +kernel))
theorem dX2_decryptBlock_59 : decode cX2_decryptBlock 59 = .ok (.isub, 1) := dk_100 (dk_by (by decide +kernel))
theorem dX2_decryptBlock_60 : decode cX2_decryptBlock 60 = .ok (.istore 6, 2) := dk_54 6 (dk_by (by decide +kernel))
theorem dX2_decryptBlock_62 : decode cX2_decryptBlock 62 = .ok (.iload 5, 2) := dk_21 5 (dk_by (by decide +kernel))
theorem dX2_decryptBlock_64 : decode cX2_decryptBlock 64 = .ok (.iload 6, 2) := dk_21 6 (dk_by (by decide +kernel))
theorem dX2_decryptBlock_66 : decode cX2_decryptBlock 66 = .ok (.iconst 4, 1) := dk_7 (dk_by (by decide +kernel))
theorem dX2_decryptBlock_67 : decode cX2_decryptBlock 67 = .ok (.ishl, 1) := dk_120 (dk_by (by decide +kernel))
theorem dX2_decryptBlock_68 : decode cX2_decryptBlock 68 = .ok (.aload_n 0, 1) := dk_42 (dk_by (by decide +kernel))
theorem dX2_decryptBlock_69 : decode cX2_decryptBlock 69 = .ok (.getfield 59, 3) := dk_180 0 59 (dk_by (by decide +kernel))
theorem dX2_decryptBlock_72 : decode cX2_decryptBlock 72 = .ok (.iadd, 1) := dk_96 (dk_by (by decide +kernel))
theorem dX2_decryptBlock_73 : decode cX2_decryptBlock 73 = .ok (.iload 6, 2) := dk_21 6 (dk_by (by decide +kernel))
theorem dX2_decryptBlock_75 : decode cX2_decryptBlock 75 = .ok (.iload 7, 2) := dk_21 7 (dk_by (by decide +kernel))
theorem dX2_decryptBlock_77 : decode cX2_decryptBlock 77 = .ok (.iadd, 1) := dk_96 (dk_by (by decide +kernel))
theorem dX2_decryptBlock_78 : decode cX2_decryptBlock 78 = .ok (.ixor, 1) := dk_130 (dk_by (by decide +kernel))
theorem dX2_decryptBlock_79 : decode cX2_decryptBlock 79 = .ok (.iload 6, 2) := dk_21 6 (dk_by (by decide +kernel))
theorem dX2_decryptBlock_81 : decode cX2_decryptBlock 81 = .ok (.iconst 5, 1) := dk_8 (dk_by (by decide +kernel))
theorem dX2_decryptBlock_82 : decode cX2_decryptBlock 82 = .ok (.iushr, 1) := dk_124 (dk_by (by decide +kernel))
theorem dX2_decryptBlock_83 : decode cX2_decryptBlock 83 = .ok (.aload_n 0, 1) := dk_42 (dk_by (by decide +kernel))
theorem dX2_decryptBlock_84 : decode cX2_decryptBlock 84 = .ok (.getfield 63, 3) := dk_180 0 63 (dk_by (by decide +kernel))
theorem dX2_decryptBlock_87 : decode cX2_decryptBlock 87 = .ok (.iadd, 1) := dk_96 (dk_by (by decide +kernel))
theorem dX2_decryptBlock_88 : decode cX2_decryptBlock 88 = .ok (.ixor, 1) := dk_130 (dk_by (by decide +kernel))
theorem dX2_decryptBlock_89 : decode cX2_decryptBlock 89 = .ok (.isub, 1) := dk_100 (dk_by (by decide +kernel))
theorem dX2_decryptBlock_90 : decode cX2_decryptBlock 90 = .ok (.istore 5, 2) := dk_54 5 (dk_by (by decide +kernel))
theorem dX2_decryptBlock_92 : decode cX2_decryptBlock 92 = .ok (.iload 7, 2) := dk_21 7 (dk_by (by decide +kernel))
theorem dX2_decryptBlock_94 : decode cX2_decryptBlock 94 = .ok (.ldc 72, 2) := dk_18 72 (dk_by (by decide +kernel))
theorem dX2_decryptBlock_96 : decode cX2_decryptBlock 96 = .ok (.iadd, 1) := dk_96 (dk_by (by decide +kernel))
theorem dX2_decryptBlock_97 : decode cX2_decryptBlock 97 = .ok (.istore 7, 2) := dk_54 7 (dk_by (by decide +kernel))
theorem dX2_decryptBlock_99 : decode cX2_decryptBlock 99 = .ok (.iinc 8 1, 3) := dk_132 8 1 (dk_by (by decide +kernel))
theorem dX2_decryptBlock_102 : decode cX2_decryptBlock 102 = .ok (.goto (-77), 3) := dk_167 255 179 (dk_by (by decide +kernel))
theorem dX2_decryptBlock_105 : decode cX2_decryptBlock 105 = .ok (.aload_n 0, 1) := dk_42 (dk_by (by decide +kernel))
theorem dX2_decryptBlock_106 : decode cX2_decryptBlock 106 = .ok (.iload 5, 2) := dk_21 5 (dk_by (by decide +kernel))
theorem dX2_decryptBlock_108 : decode cX2_decryptBlock 108 = .ok (.aload_n 3, 1) := dk_45 (dk_by (by decide +kernel))
theorem dX2_decryptBlock_109 : decode cX2_decryptBlock 109 = .ok (.iload 4, 2) := dk_21 4 (dk_by (by decide +kernel))
theorem dX2_decryptBlock_111 : decode cX2_decryptBlock 111 = .ok (.invokevirtual 73, 3) := dk_182 0 73 (dk_by (by decide +kernel))
theorem dX2_decryptBlock_114 : decode cX2_decryptBlock 114 = .ok (.aload_n 0, 1) := dk_42 (dk_by (by decide +kernel))
theorem dX2_decryptBlock_115 : decode cX2_decryptBlock 115 = .ok (.iload 6, 2) := dk_21 6 (dk_by (by decide +kernel))
theorem dX2_decryptBlock_117 : decode cX2_decryptBlock 117 = .ok (.aload_n 3, 1) := dk_45 (dk_by (by decide +kernel))
theorem dX2_decryptBlock_118 : decode cX2_decryptBlock 118 = .ok (.iload 4, 2) := dk_21 4 (dk_by (by decide +kernel))
theorem dX2_decryptBlock_120 : decode cX2_decryptBlock 120 = .ok (.iconst 4, 1) := dk_7 (dk_by (by decide +kernel))
theorem dX2_decryptBlock_121 : decode cX2_decryptBlock 121 = .ok (.iadd, 1) := dk_96 (dk_by (by decide +kernel))
theorem dX2_decryptBlock_122 : decode cX2_decryptBlock 122 = .ok (.invokevirtual 73, 3) := dk_182 0 73 (dk_by (by decide +kernel))
theorem dX2_decryptBlock_125 : decode cX2_decryptBlock 125 = .ok (.bipush 8, 2) := dk_16 8 (dk_by (by decide +kernel))
theorem dX2_decryptBlock_127 : decode cX2_decryptBlock 127 = .ok (.ireturn, 1) := dk_172 (dk_by (by decide +kernel))
theorem q19 : (Jvm.Cond.initialized "TEAEngine") ∈ lw_all := lw_g (lw_at lw_m1 3 rfl) rfl
theorem q73 : (Jvm.Cond.instantiable "TEAEngine" (6 : Nat)) ∈ lw_all := lw_g (lw_at lw_m1 57 rfl) rfl
theorem q75 : (Jvm.Cond.instanceMethod ({ cls := "TEAEngine", name := "<init>", desc := "()V" } : Jvm.MethodName)) ∈ lw_all := lw_g (lw_at lw_m1 59 rfl) rfl
theorem q76 : (Jvm.Cond.code ({ cls := "TEAEngine", name := "<init>", desc := "()V" } : Jvm.MethodName) prog_7_method_1_code (1 : Nat) (Option.none : Option Jvm.ClassFile.FieldType)) ∈ lw_all := lw_g (lw_at lw_m1 60 rfl) rfl
theorem q77 : (Jvm.Cond.methodLink "TEAEngine" (1 : Nat) ({ cls := "java/lang/Object", name := "<init>", desc := "()V" } : Jvm.MethodName)) ∈ lw_all := lw_g (lw_at lw_m1 61 rfl) rfl
theorem q78 : (Jvm.Cond.fieldLink "TEAEngine" (59 : Nat) "TEAEngine" "_a" "I") ∈ lw_all := lw_g (lw_at lw_m1 62 rfl) rfl
theorem q79 : (Jvm.Cond.fieldLink "TEAEngine" (63 : Nat) "TEAEngine" "_b" "I") ∈ lw_all := lw_g (lw_at lw_m1 63 rfl) rfl
theorem q80 : (Jvm.Cond.fieldLink "TEAEngine" (66 : Nat) "TEAEngine" "_c" "I") ∈ lw_all := lw_g (lw_at lw_m1 64 rfl) rfl
theorem q81 : (Jvm.Cond.fieldLink "TEAEngine" (69 : Nat) "TEAEngine" "_d" "I") ∈ lw_all := lw_g (lw_at lw_m1 65 rfl) rfl
theorem q82 : (Jvm.Cond.fieldLink "TEAEngine" (7 : Nat) "TEAEngine" "_initialised" "Z") ∈ lw_all := lw_g (lw_at lw_m1 66 rfl) rfl
theorem q83 : (Jvm.Cond.fieldLink "TEAEngine" (22 : Nat) "TEAEngine" "_forEncryption" "Z") ∈ lw_all := lw_g (lw_at lw_m1 67 rfl) rfl
theorem q84 : (Jvm.Cond.lays "TEAEngine" "TEAEngine" "_a" "I") ∈ lw_all := lw_g (lw_at lw_m1 68 rfl) rfl
theorem q85 : (Jvm.Cond.soleField "TEAEngine" "_a") ∈ lw_all := lw_g (lw_at lw_m1 69 rfl) rfl
theorem q86 : (Jvm.Cond.lays "TEAEngine" "TEAEngine" "_b" "I") ∈ lw_all := lw_g (lw_at lw_m1 70 rfl) rfl
theorem q87 : (Jvm.Cond.soleField "TEAEngine" "_b") ∈ lw_all := lw_g (lw_at lw_m1 71 rfl) rfl
theorem q88 : (Jvm.Cond.lays "TEAEngine" "TEAEngine" "_c" "I") ∈ lw_all := lw_g (lw_at lw_m1 72 rfl) rfl
theorem q89 : (Jvm.Cond.soleField "TEAEngine" "_c") ∈ lw_all := lw_g (lw_at lw_m1 73 rfl) rfl
theorem q90 : (Jvm.Cond.lays "TEAEngine" "TEAEngine" "_d" "I") ∈ lw_all := lw_g (lw_at lw_m1 74 rfl) rfl
theorem q91 : (Jvm.Cond.soleField "TEAEngine" "_d") ∈ lw_all := lw_g (lw_at lw_m1 75 rfl) rfl
theorem q92 : (Jvm.Cond.lays "TEAEngine" "TEAEngine" "_initialised" "Z") ∈ lw_all := lw_g (lw_at lw_m1 76 rfl) rfl
theorem q93 : (Jvm.Cond.soleField "TEAEngine" "_initialised") ∈ lw_all := lw_g (lw_at lw_m1 77 rfl) rfl
theorem q94 : (Jvm.Cond.lays "TEAEngine" "TEAEngine" "_forEncryption" "Z") ∈ lw_all := lw_g (lw_at lw_m1 78 rfl) rfl
theorem q95 : (Jvm.Cond.soleField "TEAEngine" "_forEncryption") ∈ lw_all := lw_g (lw_at lw_m1 79 rfl) rfl
theorem q96 : (Jvm.Cond.superclass "TEAEngine" "java/lang/Object") ∈ lw_all := lw_g (lw_at lw_m1 80 rfl) rfl
theorem q143 : (Jvm.Cond.castable "TEAEngine" "BlockCipher") ∈ lw_tbl := lw_at lw_m1 127 rfl
theorem q144 : (Jvm.Cond.selects "TEAEngine" ({ cls := "BlockCipher", name := "init", desc := "(ZLCipherParameters;)V" } : Jvm.MethodName) ({ cls := "TEAEngine", name := "init", desc := "(ZLCipherParameters;)V" } : Jvm.MethodName)) ∈ lw_all := lw_g (lw_at lw_m1 128 rfl) rfl
theorem q145 : (Jvm.Cond.unhidden "TEAEngine" "init" "(ZLCipherParameters;)V") ∈ lw_tbl := lw_at lw_m1 129 rfl
theorem q146 : (Jvm.Cond.instanceMethod ({ cls := "TEAEngine", name := "init", desc := "(ZLCipherParameters;)V" } : Jvm.MethodName)) ∈ lw_all := lw_g (lw_at lw_m1 130 rfl) rfl
theorem q147 : (Jvm.Cond.publicMethod ({ cls := "TEAEngine", name := "init", desc := "(ZLCipherParameters;)V" } : Jvm.MethodName)) ∈ lw_tbl := lw_at lw_m1 131 rfl
theorem q148 : (Jvm.Cond.code ({ cls := "TEAEngine", name := "init", desc := "(ZLCipherParameters;)V" } : Jvm.MethodName) prog_7_method_2_code (4 : Nat) (Option.none : Option Jvm.ClassFile.FieldType)) ∈ lw_all := lw_g (lw_at lw_m1 132 rfl) rfl
theorem q149 : (Jvm.Cond.classLink "TEAEngine" (13 : Nat) "KeyParameter") ∈ lw_all := lw_g (lw_at lw_m1 133 rfl) rfl
theorem q150 : (Jvm.Cond.classLink "TEAEngine" (15 : Nat) "java/lang/IllegalArgumentException") ∈ lw_all := lw_g (lw_at lw_m1 134 rfl) rfl
theorem q193 : (Jvm.Cond.methodLink "TEAEngine" (19 : Nat) ({ cls := "java/lang/IllegalArgumentException", name := "<init>", desc := "(Ljava/lang/String;)V" } : Jvm.MethodName)) ∈ lw_all := lw_g (lw_at lw_m1 177 rfl) rfl
theorem q218 : (Jvm.Cond.methodLink "TEAEngine" (25 : Nat) ({ cls := "KeyParameter", name := "getKey", desc := "()[B" } : Jvm.MethodName)) ∈ lw_all := lw_g (lw_at lw_m1 202 rfl) rfl
theorem q222 : (Jvm.Cond.methodLink "TEAEngine" (29 : Nat) ({ cls := "TEAEngine", name := "setKey", desc := "([B)V" } : Jvm.MethodName)) ∈ lw_all := lw_g (lw_at lw_m1 206 rfl) rfl
theorem q223 : (Jvm.Cond.privateMethod ({ cls := "TEAEngine", name := "setKey", desc := "([B)V" } : Jvm.MethodName)) ∈ lw_tbl := lw_at lw_m1 207 rfl
theorem q224 : (Jvm.Cond.instanceMethod ({ cls := "TEAEngine", name := "setKey", desc := "([B)V" } : Jvm.MethodName)) ∈ lw_all := lw_g (lw_at lw_m1 208 rfl) rfl
theorem q225 : (Jvm.Cond.code ({ cls := "TEAEngine", name := "setKey", desc := "([B)V" } : Jvm.MethodName) prog_7_method_4_code (2 : Nat) (Option.none : Option Jvm.ClassFile.FieldType)) ∈ lw_all := lw_g (lw_at lw_m1 209 rfl) rfl
theorem q227 : (Jvm.Cond.methodLink "TEAEngine" (55 : Nat) ({ cls := "TEAEngine", name := "bytesToInt", desc := "([BI)I" } : Jvm.MethodName)) ∈ lw_all := lw_g (lw_at lw_m1 211 rfl) rfl
theorem q228 : (Jvm.Cond.privateMethod ({ cls := "TEAEngine", name := "bytesToInt", desc := "([BI)I" } : Jvm.MethodName)) ∈ lw_tbl := lw_at lw_m1 212 rfl
theorem q229 : (Jvm.Cond.instanceMethod ({ cls := "TEAEngine", name := "bytesToInt", desc := "([BI)I" } : Jvm.MethodName)) ∈ lw_all := lw_g (lw_at lw_m1 213 rfl) rfl
theorem q230 : (Jvm.Cond.code ({ cls := "TEAEngine", name := "bytesToInt", desc := "([BI)I" } : Jvm.MethodName) prog_7_method_7_code (3 : Nat) (Option.some Jvm.ClassFile.FieldType.int)) ∈ lw_all := lw_g (lw_at lw_m1 214 rfl) rfl
theorem q256 : (Jvm.Cond.selects "TEAEngine" ({ cls := "BlockCipher", name := "processBlock", desc := "([BI[BI)I" } : Jvm.MethodName) ({ cls := "TEAEngine", name := "processBlock", desc := "([BI[BI)I" } : Jvm.MethodName)) ∈ lw_all := lw_g (lw_at lw_m2 0 rfl) rfl
theorem q257 : (Jvm.Cond.unhidden "TEAEngine" "processBlock" "([BI[BI)I") ∈ lw_tbl := lw_at lw_m2 1 rfl
theorem q258 : (Jvm.Cond.instanceMethod ({ cls := "TEAEngine", name := "processBlock", desc := "([BI[BI)I" } : Jvm.MethodName)) ∈ lw_all := lw_g (lw_at lw_m2 2 rfl) rfl
theorem q259 : (Jvm.Cond.publicMethod ({ cls := "TEAEngine", name := "processBlock", desc := "([BI[BI)I" } : Jvm.MethodName)) ∈ lw_tbl := lw_at lw_m2 3 rfl
theorem q260 : (Jvm.Cond.code ({ cls := "TEAEngine", name := "processBlock", desc := "([BI[BI)I" } : Jvm.MethodName) prog_7_method_3_code (5 : Nat) (Option.some Jvm.ClassFile.FieldType.int)) ∈ lw_all := lw_g (lw_at lw_m2 4 rfl) rfl
theorem q261 : (Jvm.Cond.classLink "TEAEngine" (33 : Nat) "java/lang/IllegalStateException") ∈ lw_all := lw_g (lw_at lw_m2 5 rfl) rfl
theorem q270 : (Jvm.Cond.methodLink "TEAEngine" (35 : Nat) ({ cls := "java/lang/IllegalStateException", name := "<init>", desc := "(Ljava/lang/String;)V" } : Jvm.MethodName)) ∈ lw_all := lw_g (lw_at lw_m2 14 rfl) rfl
theorem q276 : (Jvm.Cond.classLink "TEAEngine" (36 : Nat) "DataLengthException") ∈ lw_all := lw_g (lw_at lw_m2 20 rfl) rfl
theorem q287 : (Jvm.Cond.methodLink "TEAEngine" (40 : Nat) ({ cls := "DataLengthException", name := "<init>", desc := "(Ljava/lang/String;)V" } : Jvm.MethodName)) ∈ lw_all := lw_g (lw_at lw_m2 31 rfl) rfl
theorem q296 : (Jvm.Cond.classLink "TEAEngine" (41 : Nat) "OutputLengthException") ∈ lw_all := lw_g (lw_at lw_m2 40 rfl) rfl
theorem q307 : (Jvm.Cond.methodLink "TEAEngine" (45 : Nat) ({ cls := "OutputLengthException", name := "<init>", desc := "(Ljava/lang/String;)V" } : Jvm.MethodName)) ∈ lw_all := lw_g (lw_at lw_m2 51 rfl) rfl
theorem q313 : (Jvm.Cond.methodLink "TEAEngine" (46 : Nat) ({ cls := "TEAEngine", name := "encryptBlock", desc := "([BI[BI)I" } : Jvm.MethodName)) ∈ lw_all := lw_g (lw_at lw_m2 57 rfl) rfl
theorem q314 : (Jvm.Cond.privateMethod ({ cls := "TEAEngine", name := "encryptBlock", desc := "([BI[BI)I" } : Jvm.MethodName)) ∈ lw_tbl := lw_at lw_m2 58 rfl
theorem q315 : (Jvm.Cond.instanceMethod ({ cls := "TEAEngine", name := "encryptBlock", desc := "([BI[BI)I" } : Jvm.MethodName)) ∈ lw_all := lw_g (lw_at lw_m2 59 rfl) rfl
theorem q316 : (Jvm.Cond.code ({ cls := "TEAEngine", name := "encryptBlock", desc := "([BI[BI)I" } : Jvm.MethodName) prog_7_method_5_code (9 : Nat) (Option.some Jvm.ClassFile.FieldType.int)) ∈ lw_all := lw_g (lw_at lw_m2 60 rfl) rfl
theorem q317 : (Jvm.Cond.constant "TEAEngine" (72 : Nat) (1640531527 : Int32)) ∈ lw_all := lw_g (lw_at lw_m2 61 rfl) rfl
theorem q318 : (Jvm.Cond.methodLink "TEAEngine" (73 : Nat) ({ cls := "TEAEngine", name := "unpackInt", desc := "(I[BI)V" } : Jvm.MethodName)) ∈ lw_all := lw_g (lw_at lw_m2 62 rfl) rfl
theorem q319 : (Jvm.Cond.privateMethod ({ cls := "TEAEngine", name := "unpackInt", desc := "(I[BI)V" } : Jvm.MethodName)) ∈ lw_tbl := lw_at lw_m2 63 rfl
theorem q320 : (Jvm.Cond.instanceMethod ({ cls := "TEAEngine", name := "unpackInt", desc := "(I[BI)V" } : Jvm.MethodName)) ∈ lw_all := lw_g (lw_at lw_m2 64 rfl) rfl
theorem q321 : (Jvm.Cond.code ({ cls := "TEAEngine", name := "unpackInt", desc := "(I[BI)V" } : Jvm.MethodName) prog_7_method_8_code (4 : Nat) (Option.none : Option Jvm.ClassFile.FieldType)) ∈ lw_all := lw_g (lw_at lw_m2 65 rfl) rfl
theorem q322 : (Jvm.Cond.methodLink "TEAEngine" (50 : Nat) ({ cls := "TEAEngine", name := "decryptBlock", desc := "([BI[BI)I" } : Jvm.MethodName)) ∈ lw_all := lw_g (lw_at lw_m2 66 rfl) rfl
theorem q323 : (Jvm.Cond.privateMethod ({ cls := "TEAEngine", name := "decryptBlock", desc := "([BI[BI)I" } : Jvm.MethodName)) ∈ lw_tbl := lw_at lw_m2 67 rfl
theorem q324 : (Jvm.Cond.instanceMethod ({ cls := "TEAEngine", name := "decryptBlock", desc := "([BI[BI)I" } : Jvm.MethodName)) ∈ lw_all := lw_g (lw_at lw_m2 68 rfl) rfl
theorem q325 : (Jvm.Cond.code ({ cls := "TEAEngine", name := "decryptBlock", desc := "([BI[BI)I" } : Jvm.MethodName) prog_7_method_6_code (9 : Nat) (Option.some Jvm.ClassFile.FieldType.int)) ∈ lw_all := lw_g (lw_at lw_m2 69 rfl) rfl
theorem q326 : (Jvm.Cond.constant "TEAEngine" (77 : Nat) (-957401312 : Int32)) ∈ lw_all := lw_g (lw_at lw_m2 70 rfl) rfl
theorem in_X2 : ∀ w ∈ wsX20, w ∈ lw_all := lw_in wsX20 [84, 86, 88, 90, 92, 94] (by decide +kernel) (by decide +kernel)
/-! names: X3.XTEAEngine -/
/-! XTEAEngine -/
def RX3 : String := "XTEAEngine"
def TX3 : u_T := fun k => match k with
  | 0 => ("XTEAEngine", "_S", "[I", false)
  | 1 => ("XTEAEngine", "_sum0", "[I", false)
  | 2 => ("XTEAEngine", "_sum1", "[I", false)
  | 3 => ("XTEAEngine", "_initialised", "Z", false)
  | _ => ("XTEAEngine", "_forEncryption", "Z", false)
def tyX3 : Nat → FieldType := fun k => match k with
  | 0 => .array .int
  | 1 => .array .int
  | 2 => .array .int
  | 3 => .boolean
  | _ => .boolean
abbrev wsX30 : List Cond := u_ws RX3 TX3 5
theorem nmX3 : ∀ a, a < 5 → ∀ b, b < 5 → a ≠ b → (TX3 a).2.1 ≠ (TX3 b).2.1 := by decide +kernel
theorem tyX3_ok : ∀ k, k < 5 → parseFieldDescriptor (TX3 k).2.2.1 = some (tyX3 k) := by decide +kernel
abbrev cX3_init : ByteArray := prog_11_method_1_code
def yX3_init : MethodName := ⟨RX3, "<init>", "()V"⟩
theorem dX3_init_0 : decode cX3_init 0 = .ok (.aload_n 0, 1) := dk_42 (dk_by (by decide +kernel))
theorem dX3_init_1 : decode cX3_init 1 = .ok (.invokespecial 1, 3) := dk_183 0 1 (dk_by (by decide +kernel))
theorem dX3_init_4 : decode cX3_init 4 = .ok (.aload_n 0, 1) := dk_42 (dk_by (by decide +kernel))
theorem dX3_init_5 : decode cX3_init 5 = .ok (.iconst 4, 1) := dk_7 (dk_by (by decide +kernel))
theorem dX3_init_6 : decode cX3_init 6 = .ok (.newarray .int, 2) := dk_188_10 (dk_by (by decide +kernel))
theorem dX3_init_8 : decode cX3_init 8 = .ok (.putfield 7, 3) := dk_181 0 7 (dk_by (by decide +kernel))
theorem dX3_init_11 : decode cX3_init 11 = .ok (.aload_n 0, 1) := dk_42 (dk_by (by decide +kernel))
theorem dX3_init_12 : decode cX3_init 12 = .ok (.bipush 32, 2) := dk_16 32 (dk_by (by decide +kernel))
theorem dX3_init_14 : decode cX3_init 14 = .ok (.newarray .int, 2) := dk_188_10 (dk_by (by decide +kernel))
theorem dX3_init_16 : decode cX3_init 16 = .ok (.putfield 13, 3) := dk_181 0 13 (dk_by (by decide +kernel))
theorem dX3_init_19 : decode cX3_init 19 = .ok (.aload_n 0, 1) := dk_42 (dk_by (by decide +kernel))
theorem dX3_init_20 : decode cX3_init 20 = .ok (.bipush 32, 2) := dk_16 32 (dk_by (by decide +kernel))
theorem dX3_init_22 : decode cX3_init 22 = .ok (.newarray .int, 2) := dk_188_10 (dk_by (by decide +kernel))
theorem dX3_init_24 : decode cX3_init 24 = .ok (.putfield 16, 3) := dk_181 0 16 (dk_by (by decide +kernel))
theorem dX3_init_27 : decode cX3_init 27 = .ok (.aload_n 0, 1) := dk_42 (dk_by (by decide +kernel))
theorem dX3_init_28 : decode cX3_init 28 = .ok (.iconst 0, 1) := dk_3 (dk_by (by decide +kernel))
theorem dX3_init_29 : decode cX3_init 29 = .ok (.putfield 19, 3) := dk_181 0 19 (dk_by (by decide +kernel))
theorem dX3_init_32 : decode cX3_init 32 = .ok (.return_, 1) := dk_177 (dk_by (by decide +kernel))
abbrev cX3_init_2 : ByteArray := prog_11_method_2_code
def yX3_init_2 : MethodName := ⟨RX3, "init", "(ZLCipherParameters;)V"⟩
theorem dX3_init_2_0 : decode cX3_init_2 0 = .ok (.aload_n 2, 1) := dk_44 (dk_by (by decide +kernel))
theorem dX3_init_2_1 : decode cX3_init_2 1 = .ok (.instanceof 23, 3) := dk_193 0 23 (dk_by (by decide +kernel))
theorem dX3_init_2_4 : decode cX3_init_2 4 = .ok (.ifCond .ne 13, 3) := dk_154 0 13 (dk_by (by decide +kernel))
theorem dX3_init_2_7 : decode cX3_init_2 7 = .ok (.new 25, 3) := dk_187 0 25 (dk_by (by decide +kernel))
theorem dX3_init_2_10 : decode cX3_init_2 10 = .ok (.dup, 1) := dk_89 (dk_by (by decide +kernel))
theorem dX3_init_2_11 : decode cX3_init_2 11 = .ok (.ldc 27, 2) := dk_18 27 (dk_by (by decide +kernel))
theorem dX3_init_2_13 : decode cX3_init_2 13 = .ok (.invokespecial 29, 3) := dk_183 0 29 (dk_by (by decide +kernel))
theorem dX3_init_2_16 : decode cX3_init_2 16 = .ok (.athrow, 1) := dk_191 (dk_by (by decide +kernel))
theorem dX3_init_2_17 : decode cX3_init_2 17 = .ok (.aload_n 0, 1) := dk_42 (dk_by (by decide +kernel))
theorem dX3_init_2_18 : decode cX3_init_2 18 = .ok (.iload_n 1, 1) := dk_27 (dk_by (by decide +kernel))
theorem dX3_init_2_19 : decode cX3_init_2 19 = .ok (.putfield 32, 3) := dk_181 0 32 (dk_by (by decide +kernel))
theorem dX3_init_2_22 : decode cX3_init_2 22 = .ok (.aload_n 0, 1) := dk_42 (dk_by (by decide +kernel))
theorem dX3_init_2_23 : decode cX3_init_2 23 = .ok (.iconst 1, 1) := dk_4 (dk_by (by decide +kernel))
theorem dX3_init_2_24 : decode cX3_init_2 24 = .ok (.putfield 19, 3) := dk_181 0 19 (dk_by (by decide +kernel))
theorem dX3_init_2_27 : decode cX3_init_2 27 = .ok (.aload_n 2, 1) := dk_44 (dk_by (by decide +kernel))
theorem dX3_init_2_28 : decode cX3_init_2 28 = .ok (.checkcast 23, 3) := dk_192 0 23 (dk_by (by decide +kernel))
theorem dX3_init_2_31 : decode cX3_init_2 31 = .ok (.astore_n 3, 1) := dk_78 (dk_by (by decide +kernel))
theorem dX3_init_2_32 : decode cX3_init_2 32 = .ok (.aload_n 0, 1) := dk_42 (dk_by (by decide +kernel))
theorem dX3_init_2_33 : decode cX3_init_2 33 = .ok (.aload_n 3, 1) := dk_45 (dk_by (by decide +kernel))
theorem dX3_init_2_34 : decode cX3_init_2 34 = .ok (.invokevirtual 35, 3) := dk_182 0 35 (dk_by (by decide +kernel))
theorem dX3_init_2_37 : decode cX3_init_2 37 = .ok (.invokevirtual 39, 3) := dk_182 0 39 (dk_by (by decide +kernel))
theorem dX3_init_2_40 : decode cX3_init_2 40 = .ok (.return_, 1) := dk_177 (dk_by (by decide +kernel))
abbrev cX3_setKey : ByteArray := prog_11_method_4_code
def yX3_setKey : MethodName := ⟨RX3, "setKey", "([B)V"⟩
theorem dX3_setKey_0 : decode cX3_setKey 0 = .ok (.aload_n 1, 1) := dk_43 (dk_by (by decide +kernel))
theorem dX3_setKey_1 : decode cX3_setKey 1 = .ok (.arraylength, 1) := dk_190 (dk_by (by decide +kernel))
theorem dX3_setKey_2 : decode cX3_setKey 2 = .ok (.bipush 16, 2) := dk_16 16 (dk_by (by decide +kernel))
theorem dX3_setKey_4 : decode cX3_setKey 4 = .ok (.if_icmp .eq 13, 3) := dk_159 0 13 (dk_by (by decide +kernel))
theorem dX3_setKey_7 : decode cX3_setKey 7 = .ok (.new 25, 3) := dk_187 0 25 (dk_by (by decide +kernel))
theorem dX3_setKey_10 : decode cX3_setKey 10 = .ok (.dup, 1) := dk_89 (dk_by (by decide +kernel))
theorem dX3_setKey_11 : decode cX3_setKey 11 = .ok (.ldc 63, 2) := dk_18 63 (dk_by (by decide +kernel))
theorem dX3_setKey_13 : decode cX3_setKey 13 = .ok (.invokespecial 29, 3) := dk_183 0 29 (dk_by (by decide +kernel))
theorem dX3_setKey_16 : decode cX3_setKey 16 = .ok (.athrow, 1) := dk_191 (dk_by (by decide +kernel))
theorem dX3_setKey_17 : decode cX3_setKey 17 = .ok (.iconst 0, 1) := dk_3 (dk_by (by decide +kernel))
theorem dX3_setKey_18 : decode cX3_setKey 18 = .ok (.dup, 1) := dk_89 (dk_by (by decide +kernel))
theorem dX3_setKey_19 : decode cX3_setKey 19 = .ok (.istore_n 3, 1) := dk_62 (dk_by (by decide +kernel))
theorem dX3_setKey_20 : decode cX3_setKey 20 = .ok (.istore_n 2, 1) := dk_61 (dk_by (by decide +kernel))
theorem dX3_setKey_21 : decode cX3_setKey 21 = .ok (.iload_n 2, 1) := dk_28 (dk_by (by decide +kernel))
theorem dX3_setKey_22 : decode cX3_setKey 22 = .ok (.iconst 4, 1) := dk_7 (dk_by (by decide +kernel))
theorem dX3_setKey_23 : decode cX3_setKey 23 = .ok (.if_icmp .ge 24, 3) := dk_162 0 24 (dk_by (by decide +kernel))
theorem dX3_setKey_26 : decode cX3_setKey 26 = .ok (.aload_n 0, 1) := dk_42 (dk_by (by decide +kernel))
theorem dX3_setKey_27 : decode cX3_setKey 27 = .ok (.getfield 7, 3) := dk_180 0 7 (dk_by (by decide +kernel))
theorem dX3_setKey_30 : decode cX3_setKey 30 = .ok (.iload_n 2, 1) := dk_28 (dk_by (by decide +kernel))
theorem dX3_setKey_31 : decode cX3_setKey 31 = .ok (.aload_n 0, 1) := dk_42 (dk_by (by decide +kernel))
theorem dX3_setKey_32 : decode cX3_setKey 32 = .ok (.aload_n 1, 1) := dk_43 (dk_by (by decide +kernel))
theorem dX3_setKey_33 : decode cX3_setKey 33 = .ok (.iload_n 3, 1) := dk_29 (dk_by (by decide +kernel))
theorem dX3_setKey_34 : decode cX3_setKey 34 = .ok (.invokevirtual 65, 3) := dk_182 0 65 (dk_by (by decide +kernel))
theorem dX3_setKey_37 : decode cX3_setKey 37 = .ok (.iastore, 1) := dk_79 (dk_by (by decide +kernel))
theorem dX3_setKey_38 : decode cX3_setKey 38 = .ok (.iinc 2 1, 3) := dk_132 2 1 (dk_by (by decide +kernel))
theorem dX3_setKey_41 : decode cX3_setKey 41 = .ok (.iinc 3 4, 3) := dk_132 3 4 (dk_by (by decide +kernel))
theorem dX3_setKey_44 : decode cX3_setKey 44 = .ok (.goto (-23), 3) := dk_167 255 233 (dk_by (by decide +kernel))
theorem dX3_setKey_47 : decode cX3_setKey 47 = .ok (.iconst 0, 1) := dk_3 (dk_by (by decide +kernel))
theorem dX3_setKey_48 : decode cX3_setKey 48 = .ok (.dup, 1) := dk_89 (dk_by (by decide +kernel))
theorem dX3_setKey_49 : decode cX3_setKey 49 = .ok (.istore_n 3, 1) := dk_62 (dk_by (by decide +kernel))
theorem dX3_setKey_50 : decode cX3_setKey 50 = .ok (.istore_n 2, 1) := dk_61 (dk_by (by decide +kernel))
theorem dX3_setKey_51 : decode cX3_setKey 51 = .ok (.iload_n 2, 1) := dk_28 (dk_by (by decide +kernel))
theorem dX3_setKey_52 : decode cX3_setKey 52 = .ok (.bipush 32, 2) := dk_16 32 (dk_by (by decide +kernel))
theorem dX3_setKey_54 : decode cX3_setKey 54 = .ok (.if_icmp .ge 49, 3) := dk_162 0 49 (dk_by (by decide +kernel))
theorem dX3_setKey_57 : decode cX3_setKey 57 = .ok (.aload_n 0, 1) := dk_42 (dk_by (by decide +kernel))
theorem dX3_setKey_58 : decode cX3_setKey 58 = .ok (.getfield 13, 3) := dk_180 0 13 (dk_by (by decide +kernel))
theorem dX3_setKey_61 : decode cX3_setKey 61 = .ok (.iload_n 2, 1) := dk_28 (dk_by (by decide +kernel))
theorem dX3_setKey_62 : decode cX3_setKey 62 = .ok (.iload_n 3, 1) := dk_29 (dk_by (by decide +kernel))
theorem dX3_setKey_63 : decode cX3_setKey 63 = .ok (.aload_n 0, 1) := dk_42 (dk_by (by decide +kernel))
theorem dX3_setKey_64 : decode cX3_setKey 64 = .ok (.getfield 7, 3) := dk_180 0 7 (dk_by (by decide +kernel))
theorem dX3_setKey_67 : decode cX3_setKey 67 = .ok (.iload_n 3, 1) := dk_29 (dk_by (by decide +kernel))
theorem dX3_setKey_68 : decode cX3_setKey 68 = .ok (.iconst 3, 1) := dk_6 (dk_by (by decide +kernel))
theorem dX3_setKey_69 : decode cX3_setKey 69 = .ok (.iand, 1) := dk_126 (dk_by (by decide +kernel))
theorem dX3_setKey_70 : decode cX3_setKey 70 = .ok (.iaload, 1) := dk_46 (dk_by (by decide +kernel))
theorem dX3_setKey_71 : decode cX3_setKey 71 = .ok (.iadd, 1) := dk_96 (dk_by (by decide +kernel))
theorem dX3_setKey_72 : decode cX3_setKey 72 = .ok (.iastore, 1) := dk_79 (dk_by (by decide +kernel))
theorem dX3_setKey_73 : decode cX3_setKey 73 = .ok (.iload_n 3, 1) := dk_29 (dk_by (by decide +kernel))
theorem dX3_setKey_74 : decode cX3_setKey 74 = .ok (.ldc 69, 2) := dk_18 69 (dk_by (by decide +kernel))
theorem dX3_setKey_76 : decode cX3_setKey 76 = .ok (.isub, 1) := dk_100 (dk_by (by decide +kernel))
theorem dX3_setKey_77 : decode cX3_setKey 77 = .ok (.istore_n 3, 1) := dk_62 (dk_by (by decide +kernel))
theorem dX3_setKey_78 : decode cX3_setKey 78 = .ok (.aload_n 0, 1) := dk_42 (dk_by (by decide +kernel))
theorem dX3_setKey_79 : decode cX3_setKey 79 = .ok (.getfield 16, 3) := dk_180 0 16 (dk_by (by decide +kernel))
theorem dX3_setKey_82 : decode cX3_setKey 82 = .ok (.iload_n 2, 1) := dk_28 (dk_by (by decide +kernel))
theorem dX3_setKey_83 : decode cX3_setKey 83 = .ok (.iload_n 3, 1) := dk_29 (dk_by (by decide +kernel))
theorem dX3_setKey_84 : decode cX3_setKey 84 = .ok (.aload_n 0, 1) := dk_42 (dk_by (by decide +kernel))
theorem dX3_setKey_85 : decode cX3_setKey 85 = .ok (.getfield 7, 3) := dk_180 0 7 (dk_by (by decide +kernel))
theorem dX3_setKey_88 : decode cX3_setKey 88 = .ok (.iload_n 3, 1) := dk_29 (dk_by (by decide +kernel))
theorem dX3_setKey_89 : decode cX3_setKey 89 = .ok (.bipush 11, 2) := dk_16 11 (dk_by (by decide +kernel))
theorem dX3_setKey_91 : decode cX3_setKey 91 = .ok (.iushr, 1) := dk_124 (dk_by (by decide +kernel))
theorem dX3_setKey_92 : decode cX3_setKey 92 = .ok (.iconst 3, 1) := dk_6 (dk_by (by decide +kernel))
theorem dX3_setKey_93 : decode cX3_setKey 93 = .ok (.iand, 1) := dk_126 (dk_by (by decide +kernel))
theorem dX3_setKey_94 : decode cX3_setKey 94 = .ok (.iaload, 1) := dk_46 (dk_by (by decide +kernel))
theorem dX3_setKey_95 : decode cX3_setKey 95 = .ok (.iadd, 1) := dk_96 (dk_by (by decide +kernel))
theorem dX3_setKey_96 : decode cX3_setKey 96 = .ok (.iastore, 1) := dk_79 (dk_by (by decide +kernel))
theorem dX3_setKey_97 : decode cX3_setKey 97 = .ok (.iinc 2 1, 3) := dk_132 2 1 (dk_by (by decide +kernel))
theorem dX3_setKey_100 : decode cX3_setKey 100 = .ok (.goto (-49), 3) := dk_167 255 207 (dk_by (by decide +kernel))
theorem dX3_setKey_103 : decode cX3_setKey 103 = .ok (.return_, 1) := dk_177 (dk_by (by decide +kernel))
abbrev cX3_bytesToInt : ByteArray := prog_11_method_7_code
def yX3_bytesToInt : MethodName := ⟨RX3, "bytesToInt", "([BI)I"⟩
theorem dX3_bytesToInt_0 : decode cX3_bytesToInt 0 = .ok (.aload_n 1, 1) := dk_43 (dk_by (by decide +kernel))
theorem dX3_bytesToInt_1 : decode cX3_bytesToInt 1 = .ok (.iload_n 2, 1) := dk_28 (dk_by (by decide +kernel))
theorem dX3_bytesToInt_2 : decode cX3_bytesToInt 2 = .ok (.iinc 2 1, 3) := dk_132 2 1 (dk_by (by decide +kernel))
theorem dX3_bytesToInt_5 : decode cX3_bytesToInt 5 = .ok (.baload, 1) := dk_51 (dk_by (by decide +kernel))
theorem dX3_bytesToInt_6 : decode cX3_bytesToInt 6 = .ok (.bipush 24, 2) := dk_16 24 (dk_by (by decide +kernel))
theorem dX3_bytesToInt_8 : decode cX3_bytesToInt 8 = .ok (.ishl, 1) := dk_120 (dk_by (by decide +kernel))
theorem dX3_bytesToInt_9 : decode cX3_bytesToInt 9 = .ok (.aload_n 1, 1) := dk_43 (dk_by (by decide +kernel))
theorem dX3_bytesToInt_10 : decode cX3_bytesToInt 10 = .ok (.iload_n 2, 1) := dk_28 (dk_by (by decide +kernel))
theorem dX3_bytesToInt_11 : decode cX3_bytesToInt 11 = .ok (.iinc 2 1, 3) := dk_132 2 1 (dk_by (by decide +kernel))
theorem dX3_bytesToInt_14 : decode cX3_bytesToInt 14 = .ok (.baload, 1) := dk_51 (dk_by (by decide +kernel))
theorem dX3_bytesToInt_15 : decode cX3_bytesToInt 15 = .ok (.sipush 255, 3) := dk_17 0 255 (dk_by (by decide +kernel))
theorem dX3_bytesToInt_18 : decode cX3_bytesToInt 18 = .ok (.iand, 1) := dk_126 (dk_by (by decide +kernel))
theorem dX3_bytesToInt_19 : decode cX3_bytesToInt 19 = .ok (.bipush 16, 2) := dk_16 16 (dk_by (by decide +kernel))
theorem dX3_bytesToInt_21 : decode cX3_bytesToInt 21 = .ok (.ishl, 1) := dk_120 (dk_by (by decide +kernel))
theorem dX3_bytesToInt_22 : decode cX3_bytesToInt 22 = .ok (.ior, 1) := dk_128 (dk_by (by decide +kernel))
theorem dX3_bytesToInt_23 : decode cX3_bytesToInt 23 = .ok (.aload_n 1, 1) := dk_43 (dk_by (by decide +kernel))
theorem dX3_bytesToInt_24 : decode cX3_bytesToInt 24 = .ok (.iload_n 2, 1) := dk_28 (dk_by (by decide +kernel))
theorem dX3_bytesToInt_25 : decode cX3_bytesToInt 25 = .ok (.iinc 2 1, 3) := dk_132 2 1 (dk_by (by decide +kernel))
theorem dX3_bytesToInt_28 : decode cX3_bytesToInt 28 = .ok (.baload, 1) := dk_51 (dk_by (by decide +kernel))
theorem dX3_bytesToInt_29 : decode cX3_bytesToInt 29 = .ok (.sipush 255, 3) := dk_17 0 255 (dk_by (by decide +kernel))
theorem dX3_bytesToInt_32 : decode cX3_bytesToInt 32 = .ok (.iand, 1) := dk_126 (dk_by (by decide +kernel))
theorem dX3_bytesToInt_33 : decode cX3_bytesToInt 33 = .ok (.bipush 8, 2) := dk_16 8 (dk_by (by decide +kernel))
theorem dX3_bytesToInt_35 : decode cX3_bytesToInt 35 = .ok (.ishl, 1) := dk_120 (dk_by (by decide +kernel))
theorem dX3_bytesToInt_36 : decode cX3_bytesToInt 36 = .ok (.ior, 1) := dk_128 (dk_by (by decide +kernel))
theorem dX3_bytesToInt_37 : decode cX3_bytesToInt 37 = .ok (.aload_n 1, 1) := dk_43 (dk_by (by decide +kernel))
theorem dX3_bytesToInt_38 : decode cX3_bytesToInt 38 = .ok (.iload_n 2, 1) := dk_28 (dk_by (by decide +kernel))
theorem dX3_bytesToInt_39 : decode cX3_bytesToInt 39 = .ok (.baload, 1) := dk_51 (dk_by (by decide +kernel))
theorem dX3_bytesToInt_40 : decode cX3_bytesToInt 40 = .ok (.sipush 255, 3) := dk_17 0 255 (dk_by (by decide +kernel))
theorem dX3_bytesToInt_43 : decode cX3_bytesToInt 43 = .ok (.iand, 1) := dk_126 (dk_by (by decide +kernel))
theorem dX3_bytesToInt_44 : decode cX3_bytesToInt 44 = .ok (.ior, 1) := dk_128 (dk_by (by decide +kernel))
theorem dX3_bytesToInt_45 : decode cX3_bytesToInt 45 = .ok (.ireturn, 1) := dk_172 (dk_by (by decide +kernel))
abbrev cX3_processBlock : ByteArray := prog_11_method_3_code
def yX3_processBlock : MethodName := ⟨RX3, "processBlock", "([BI[BI)I"⟩
theorem dX3_processBlock_0 : decode cX3_processBlock 0 = .ok (.aload_n 0, 1) := dk_42 (dk_by (by decide +kernel))
theorem dX3_processBlock_1 : decode cX3_processBlock 1 = .ok (.getfield 19, 3) := dk_180 0 19 (dk_by (by decide +kernel))
theorem dX3_processBlock_4 : decode cX3_processBlock 4 = .ok (.ifCond .ne 13, 3) := dk_154 0 13 (dk_by (by decide +kernel))
theorem dX3_processBlock_7 : decode cX3_processBlock 7 = .ok (.new 43, 3) := dk_187 0 43 (dk_by (by decide +kernel))
theorem dX3_processBlock_10 : decode cX3_processBlock 10 = .ok (.dup, 1) := dk_89 (dk_by (by decide +kernel))
theorem dX3_processBlock_11 : decode cX3_processBlock 11 = .ok (.ldc 27, 2) := dk_18 27 (dk_by (by decide +kernel))
theorem dX3_processBlock_13 : decode cX3_processBlock 13 = .ok (.invokespecial 45, 3) := dk_183 0 45 (dk_by (by decide +kernel))
theorem dX3_processBlock_16 : decode cX3_processBlock 16 = .ok (.athrow, 1) := dk_191 (dk_by (by decide +kernel))
theorem dX3_processBlock_17 : decode cX3_processBlock 17 = .ok (.iload_n 2, 1) := dk_28 (dk_by (by decide +kernel))
theorem dX3_processBlock_18 : decode cX3_processBlock 18 = .ok (.bipush 8, 2) := dk_16 8 (dk_by (by decide +kernel))
theorem dX3_processBlock_20 : decode cX3_processBlock 20 = .ok (.iadd, 1) := dk_96 (dk_by (by decide +kernel))
theorem dX3_processBlock_21 : decode cX3_processBlock 21 = .ok (.aload_n 1, 1) := dk_43 (dk_by (by decide +kernel))
theorem dX3_processBlock_22 : decode cX3_processBlock 22 = .ok (.arraylength, 1) := dk_190 (dk_by (by decide +kernel))
theorem dX3_processBlock_23 : decode cX3_processBlock 23 = .ok (.if_icmp .le 13, 3) := dk_164 0 13 (dk_by (by decide +kernel))
theorem dX3_processBlock_26 : decode cX3_processBlock 26 = .ok (.new 46, 3) := dk_187 0 46 (dk_by (by decide +kernel))
theorem dX3_processBlock_29 : decode cX3_processBlock 29 = .ok (.dup, 1) := dk_89 (dk_by (by decide +kernel))
theorem dX3_processBlock_30 : decode cX3_processBlock 30 = .ok (.ldc 48, 2) := dk_18 48 (dk_by (by decide +kernel))
theorem dX3_processBlock_32 : decode cX3_processBlock 32 = .ok (.invokespecial 50, 3) := dk_183 0 50 (dk_by (by decide +kernel))
theorem dX3_processBlock_35 : decode cX3_processBlock 35 = .ok (.athrow, 1) := dk_191 (dk_by (by decide +kernel))
theorem dX3_processBlock_36 : decode cX3_processBlock 36 = .ok (.iload 4, 2) := dk_21 4 (dk_by (by decide +kernel))
theorem dX3_processBlock_38 : decode cX3_processBlock 38 = .ok (.bipush 8, 2) := dk_16 8 (dk_by (by decide +kernel))
theorem dX3_processBlock_40 : decode cX3_processBlock 40 = .ok (.iadd, 1) := dk_96 (dk_by (by decide +kernel))
theorem dX3_processBlock_41 : decode cX3_processBlock 41 = .ok (.aload_n 3, 1) := dk_45 (dk_by (by decide +kernel))
theorem dX3_processBlock_42 : decode cX3_processBlock 42 = .ok (.arraylength, 1) := dk_190 (dk_by (by decide +kernel))
theorem dX3_processBlock_43 : decode cX3_processBlock 43 = .ok (.if_icmp .le 13, 3) := dk_164 0 13 (dk_by (by decide +kernel))
theorem dX3_processBlock_46 : decode cX3_processBlock 46 = .ok (.new 51, 3) := dk_187 0 51 (dk_by (by decide +kernel))
theorem dX3_processBlock_49 : decode cX3_processBlock 49 = .ok (.dup, 1) := dk_89 (dk_by (by decide +kernel))
theorem dX3_processBlock_50 : decode cX3_processBlock 50 = .ok (.ldc 53, 2) := dk_18 53 (dk_by (by decide +kernel))
theorem dX3_processBlock_52 : decode cX3_processBlock 52 = .ok (.invokespecial 55, 3) := dk_183 0 55 (dk_by (by decide +kernel))
theorem dX3_processBlock_55 : decode cX3_processBlock 55 = .ok (.athrow, 1) := dk_191 (dk_by (by decide +kernel))
theorem dX3_processBlock_56 : decode cX3_processBlock 56 = .ok (.aload_n 0, 1) := dk_42 (dk_by (by decide +kernel))
theorem dX3_processBlock_57 : decode cX3_processBlock 57 = .ok (.getfield 32, 3) := dk_180 0 32 (dk_by (by decide +kernel))
theorem dX3_processBlock_60 : decode cX3_processBlock 60 = .ok (.ifCond .eq 15, 3) := dk_153 0 15 (dk_by (by decide +kernel))
theorem dX3_processBlock_63 : decode cX3_processBlock 63 = .ok (.aload_n 0, 1) := dk_42 (dk_by (by decide +kernel))
theorem dX3_processBlock_64 : decode cX3_processBlock 64 = .ok (.aload_n 1, 1) := dk_43 (dk_by (by decide +kernel))
theorem dX3_processBlock_65 : decode cX3_processBlock 65 = .ok (.iload_n 2, 1) := dk_28 (dk_by (by decide +kernel))
theorem dX3_processBlock_66 : decode cX3_processBlock 66 = .ok (.aload_n 3, 1) := dk_45 (dk_by (by decide +kernel))
theorem dX3_processBlock_67 : decode cX3_processBlock 67 = .ok (.iload 4, 2) := dk_21 4 (dk_by (by decide +kernel))
theorem dX3_processBlock_69 : decode cX3_processBlock 69 = .ok (.invokevirtual 56, 3) := dk_182 0 56 (dk_by (by decide +kernel))
theorem dX3_processBlock_72 : decode cX3_processBlock 72 = .ok (.goto 12, 3) := dk_167 0 12 (dk_by (by decide +kernel))
theorem dX3_processBlock_75 : decode cX3_processBlock 75 = .ok (.aload_n 0, 1) := dk_42 (dk_by (by decide +kernel))
theorem dX3_processBlock_76 : decode cX3_processBlock 76 = .ok (.aload_n 1, 1) := dk_43 (dk_by (by decide +kernel))
theorem dX3_processBlock_77 : decode cX3_processBlock 77 = .ok (.iload_n 2, 1) := dk_28 (dk_by (by decide +kernel))
theorem dX3_processBlock_78 : decode cX3_processBlock 78 = .ok (.aload_n 3, 1) := dk_45 (dk_by (by decide +kernel))
theorem dX3_processBlock_79 : decode cX3_processBlock 79 = .ok (.iload 4, 2) := dk_21 4 (dk_by (by decide +kernel))
theorem dX3_processBlock_81 : decode cX3_processBlock 81 = .ok (.invokevirtual 60, 3) := dk_182 0 60 (dk_by (by decide +kernel))
theorem dX3_processBlock_84 : decode cX3_processBlock 84 = .ok (.ireturn, 1) := dk_172 (dk_by (by decide +kernel))
abbrev cX3_encryptBlock : ByteArray := prog_11_method_5_code
def yX3_encryptBlock : MethodName := ⟨RX3, "encryptBlock", "([BI[BI)I"⟩
theorem dX3_encryptBlock_0 : decode cX3_encryptBlock 0 = .ok (.aload_n 0, 1) := dk_42 (dk_by (by decide +kernel))
theorem dX3_encryptBlock_1 : decode cX3_encryptBlock 1 = .ok (.aload_n 1, 1) := dk_43 (dk_by (by decide +kernel))
theorem dX3_encryptBlock_2 : decode cX3_encryptBlock 2 = .ok (.iload_n 2, 1) := dk_28 (dk_by (by decide +kernel))
theorem dX3_encryptBlock_3 : decode cX3_encryptBlock 3 = .ok (.invokevirtual 65, 3) := dk_182 0 65 (dk_by (by decide +kernel))
theorem dX3_encryptBlock_6 : decode cX3_encryptBlock 6 = .ok (.istore 5, 2) := dk_54 5 (dk_by (by decide +kernel))
theorem dX3_encryptBlock_8 : decode cX3_encryptBlock 8 = .ok (.aload_n 0, 1) := dk_42 (dk_by (by decide +kernel))
theorem dX3_encryptBlock_9 : decode cX3_encryptBlock 9 = .ok (.aload_n 1, 1) := dk_43 (dk_by (by decide +kernel))
theorem dX3_encryptBlock_10 : decode cX3_encryptBlock 10 = .ok (.iload_n 2, 1) := dk_28 (dk_by (by decide +kernel))
theorem dX3_encryptBlock_11 : decode cX3_encryptBlock 11 = .ok (.iconst 4, 1) := dk_7 (dk_by (by decide +kernel))
theorem dX3_encryptBlock_12 : decode cX3_encryptBlock 12 = .ok (.iadd, 1) := dk_96 (dk_by (by decide +kernel))
theorem dX3_encryptBlock_13 : decode cX3_encryptBlock 13 = .ok (.invokevirtual 65, 3) := dk_182 0 65 (dk_by (by decide +kernel))
theorem dX3_encryptBlock_16 : decode cX3_encryptBlock 16 = .ok (.istore 6, 2) := dk_54 6 (dk_by (by decide +kernel))
theorem dX3_encryptBlock_18 : decode cX3_encryptBlock 18 = .ok (.iconst 0, 1) := dk_3 (dk_by (by decide +kernel))
theorem dX3_encryptBlock_19 : decode cX3_encryptBlock 19 = .ok (.istore 7, 2) := dk_54 7 (dk_by (by decide +kernel))
theorem dX3_encryptBlock_21 : decode cX3_encryptBlock 21 = .ok (.iload 7, 2) := dk_21 7 (dk_by (by decide +kernel))
theorem dX3_encryptBlock_23 : decode cX3_encryptBlock 23 = .ok (.bipush 32, 2) := dk_16 32 (dk_by (by decide +kernel))
theorem dX3_encryptBlock_25 : decode cX3_encryptBlock 25 = .ok (.if_icmp .ge 59, 3) := dk_162 0 59 (dk_by (by decide +kernel))
theorem dX3_encryptBlock_28 : decode cX3_encryptBlock 28 = .ok (.iload 5, 2) := dk_21 5 (dk_by (by decide +kernel))
theorem dX3_encryptBlock_30 : decode cX3_encryptBlock 30 = .ok (.iload 6, 2) := dk_21 6 (dk_by (by decide +kernel))
theorem dX3_encryptBlock_32 : decode cX3_encryptBlock 32 = .ok (.iconst 4, 1) := dk_7 (dk_by (by decide +kernel))
theorem dX3_encryptBlock_33 : decode cX3_encryptBlock 33 = .ok (.ishl, 1) := dk_120 (dk_by (by decide +kernel))
theorem dX3_encryptBlock_34 : decode cX3_encryptBlock 34 = .ok (.iload 6, 2) := dk_21 6 (dk_by (by decide +kernel))
theorem dX3_encryptBlock_36 : decode cX3_encryptBlock 36 = .ok (.iconst 5, 1) := dk_8 (dk_by (by decide +kernel))
theorem dX3_encryptBlock_37 : decode cX3_encryptBlock 37 = .ok (.iushr, 1) := dk_124 (dk_by (by decide +kernel))
theorem dX3_encryptBlock_38 : decode cX3_encryptBlock 38 = .ok (.ixor, 1) := dk_130 (dk_by (by decide +kernel))
theorem dX3_encryptBlock_39 : decode cX3_encryptBlock 39 = .ok (.iload 6, 2) := dk_21 6 (dk_by (by decide +kernel))
theorem dX3_encryptBlock_41 : decode cX3_encryptBlock 41 = .ok (.iadd, 1) := dk_96 (dk_by (by decide +kernel))
theorem dX3_encryptBlock_42 : decode cX3_encryptBlock 42 = .ok (.aload_n 0, 1) := dk_42 (dk_by (by decide +kernel))
theorem dX3_encryptBlock_43 : decode cX3_encryptBlock 43 = .ok (.getfield 13, 3) := dk_180 0 13 (dk_by (by decide +kernel))
theorem dX3_encryptBlock_46 : decode cX3_encryptBlock 46 = .ok (.iload 7, 2) := dk_21 7 (dk_by (by decide +kernel))
theorem dX3_encryptBlock_48 : decode cX3_encryptBlock 48 = .ok (.iaload, 1) := dk_46 (dk_by (by decide +kernel))
theorem dX3_encryptBlock_49 : decode cX3_encryptBlock 49 = .ok (.ixor, 1) := dk_130 (dk_by (by decide +kernel))
theorem dX3_encryptBlock_50 : decode cX3_encryptBlock 50 = .ok (.iadd, 1) := dk_96 (dk_by (by decide +kernel))
theorem dX3_encryptBlock_51 : decode cX3_encryptBlock 51 = .ok (.istore 5, 2) := dk_54 5 (dk_by (by decide +kernel))
theorem dX3_encryptBlock_53 : decode cX3_encryptBlock 53 = .ok (.iload 6, 2) := dk_21 6 (dk_by (by decide +kernel))
theorem dX3_encryptBlock_55 : decode cX3_encryptBlock 55 = .ok (.iload 5, 2) := dk_21 5 (dk_by (by decide +kernel))
theorem dX3_encryptBlock_57 : decode cX3_encryptBlock 57 = .ok (.iconst 4, 1) := dk_7 (dk_by (by decide +kernel))
theorem dX3_encryptBlock_58 : decode cX3_encryptBlock 58 = .ok (.ishl, 1) := dk_120 (dk_by (by decide +kernel))
theorem dX3_encryptBlock_59 : decode cX3_encryptBlock 59 = .ok (.iload 5, 2) := dk_21 5 (dk_by (by decide +kernel))
theorem dX3_encryptBlock_61 : decode cX3_encryptBlock 61 = .ok (.iconst 5, 1) := dk_8 (dk_by (by decide +kernel))
theorem dX3_encryptBlock_62 : decode cX3_encryptBlock 62 = .ok (.iushr, 1) := dk_124 (dk_by (by decide +kernel))
theorem dX3_encryptBlock_63 : decode cX3_encryptBlock 63 = .ok (.ixor, 1) := dk_130 (dk_by (by decide +kernel))
theorem dX3_encryptBlock_64 : decode cX3_encryptBlock 64 = .ok (.iload 5, 2) := dk_21 5 (dk_by (by decide +kernel))
theorem dX3_encryptBlock_66 : decode cX3_encryptBlock 66 = .ok (.iadd, 1) := dk_96 (dk_by (by decide +kernel))
theorem dX3_encryptBlock_67 : decode cX3_encryptBlock 67 = .ok (.aload_n 0, 1) := dk_42 (dk_by (by decide +kernel))
theorem dX3_encryptBlock_68 : decode cX3_encryptBlock 68 = .ok (.getfield 16, 3) := dk_180 0 16 (dk_by (by decide +kernel))
theorem dX3_encryptBlock_71 : decode cX3_encryptBlock 71 = .ok (.iload 7, 2) := dk_21 7 (dk_by (by decide +kernel))
theorem dX3_encryptBlock_73 : decode cX3_encryptBlock 73 = .ok (.iaload, 1) := dk_46 (dk_by (by decide +kernel))
theorem dX3_encryptBlock_74 : decode cX3_encryptBlock 74 = .ok (.ixor, 1) := dk_130 (dk_by (by decide +kernel))
theorem dX3_encryptBlock_75 : decode cX3_encryptBlock 75 = .ok (.iadd, 1) := dk_96 (dk_by (by decide +kernel))
theorem dX3_encryptBlock_76 : decode cX3_encryptBlock 76 = .ok (.istore 6, 2) := dk_54 6 (dk_by (by decide +kernel))
theorem dX3_encryptBlock_78 : decode cX3_encryptBlock 78 = .ok (.iinc 7 1, 3) := dk_132 7 1 (dk_by (by decide +kernel))
theorem dX3_encryptBlock_81 : decode cX3_encryptBlock 81 = .ok (.goto (-60), 3) := dk_167 255 196 (dk_by (by decide +kernel))
theorem dX3_encryptBlock_84 : decode cX3_encryptBlock 84 = .ok (.aload_n 0, 1) := dk_42 (dk_by (by decide +kernel))
theorem dX3_encryptBlock_85 : decode cX3_encryptBlock 85 = .ok (.iload 5, 2) := dk_21 5 (dk_by (by decide +kernel))
theorem dX3_encryptBlock_87 : decode cX3_encryptBlock 87 = .ok (.aload_n 3, 1) := dk_45 (dk_by (by decide +kernel))
theorem dX3_encryptBlock_88 : decode cX3_encryptBlock 88 = .ok (.iload 4, 2) := dk_21 4 (dk_by (by decide +kernel))
theorem dX3_encryptBlock_90 : decode cX3_encryptBlock 90 = .ok (.invokevirtual 70, 3) := dk_182 0 70 (dk_by (by decide +kernel))
theorem dX3_encryptBlock_93 : decode cX3_encryptBlock 93 = .ok (.aload_n 0, 1) := dk_42 (dk_by (by decide +kernel))
theorem dX3_encryptBlock_94 : decode cX3_encryptBlock 94 = .ok (.iload 6, 2) := dk_21 6 (dk_by (by decide +kernel))
theorem dX3_encryptBlock_96 : decode cX3_encryptBlock 96 = .ok (.aload_n 3, 1) := dk_45 (dk_by (by decide +kernel))
theorem dX3_encryptBlock_97 : decode cX3_encryptBlock 97 = .ok (.iload 4, 2) := dk_21 4 (dk_by (by decide +kernel))
theorem dX3_encryptBlock_99 : decode cX3_encryptBlock 99 = .ok (.iconst 4, 1) := dk_7 (dk_by (by decide +kernel))
theorem dX3_encryptBlock_100 : decode cX3_encryptBlock 100 = .ok (.iadd, 1) := dk_96 (dk_by (by decide +kernel))
theorem dX3_encryptBlock_101 : decode cX3_encryptBlock 101 = .ok (.invokevirtual 70, 3) := dk_182 0 70 (dk_by (by decide +kernel))
theorem dX3_encryptBlock_104 : decode cX3_encryptBlock 104 = .ok (.bipush 8, 2) := dk_16 8 (dk_by (by decide +kernel))
theorem dX3_encryptBlock_106 : decode cX3_encryptBlock 106 = .ok (.ireturn, 1) := dk_172 (dk_by (by decide +kernel))
abbrev cX3_unpackInt : ByteArray := prog_11_method_8_code
def yX3_unpackInt : MethodName := ⟨RX3, "unpackInt", "(I[BI)V"⟩
theorem dX3_unpackInt_0 : decode cX3_unpackInt 0 = .ok (.aload_n 2, 1) := dk_44 (dk_by (by decide +kernel))
theorem dX3_unpackInt_1 : decode cX3_unpackInt 1 = .ok (.iload_n 3, 1) := dk_29 (dk_by (by decide +kernel))
theorem dX3_unpackInt_2 : decode cX3_unpackInt 2 = .ok (.iinc 3 1, 3) := dk_132 3 1 (dk_by (by decide +kernel))
theorem dX3_unpackInt_5 : decode cX3_unpackInt 5 = .ok (.iload_n 1, 1) := dk_27 (dk_by (by decide +kernel))
theorem dX3_unpackInt_6 : decode cX3_unpackInt 6 = .ok (.bipush 24, 2) := dk_16 24 (dk_by (by decide +kernel))
theorem dX3_unpackInt_8 : decode cX3_unpackInt 8 = .ok (.iushr, 1) := dk_124 (dk_by (by decide +kernel))
theorem dX3_unpackInt_9 : decode cX3_unpackInt 9 = .ok (.i2b, 1) := dk_145 (dk_by (by decide +kernel))
theorem dX3_unpackInt_10 : decode cX3_unpackInt 10 = .ok (.bastore, 1) := dk_84 (dk_by (by decide +kernel))
theorem dX3_unpackInt_11 : decode cX3_unpackInt 11 = .ok (.aload_n 2, 1) := dk_44 (dk_by (by decide +kernel))
theorem dX3_unpackInt_12 : decode cX3_unpackInt 12 = .ok (.iload_n 3, 1) := dk_29 (dk_by (by decide +kernel))
theorem dX3_unpackInt_13 : decode cX3_unpackInt 13 = .ok (.iinc 3 1, 3) := dk_132 3 1 (dk_by (by decide +kernel))
theorem dX3_unpackInt_16 : decode cX3_unpackInt 16 = .ok (.iload_n 1, 1) := dk_27 (dk_by (by decide +kernel))
theorem dX3_unpackInt_17 : decode cX3_unpackInt 17 = .ok (.bipush 16, 2) := dk_16 16 (dk_by (by decide +kernel))
theorem dX3_unpackInt_19 : decode cX3_unpackInt 19 = .ok (.iushr, 1) := dk_124 (dk_by (by decide +kernel))
theorem dX3_unpackInt_20 : decode cX3_unpackInt 20 = .ok (.i2b, 1) := dk_145 (dk_by (by decide +kernel))
theorem dX3_unpackInt_21 : decode cX3_unpackInt 21 = .ok (.bastore, 1) := dk_84 (dk_by (by decide +kernel))
theorem dX3_unpackInt_22 : decode cX3_unpackInt 22 = .ok (.aload_n 2, 1) := dk_44 (dk_by (by decide +kernel))
theorem dX3_unpackInt_23 : decode cX3_unpackInt 23 = .ok (.iload_n 3, 1) := dk_29 (dk_by (by decide +kernel))
theorem dX3_unpackInt_24 : decode cX3_unpackInt 24 = .ok (.iinc 3 1, 3) := dk_132 3 1 (dk_by (by decide +kernel))
theorem dX3_unpackInt_27 : decode cX3_unpackInt 27 = .ok (.iload_n 1, 1) := dk_27 (dk_by (by decide +kernel))
theorem dX3_unpackInt_28 : decode cX3_unpackInt 28 = .ok (.bipush 8, 2) := dk_16 8 (dk_by (by decide +kernel))
theorem dX3_unpackInt_30 : decode cX3_unpackInt 30 = .ok (.iushr, 1) := dk_124 (dk_by (by decide +kernel))
theorem dX3_unpackInt_31 : decode cX3_unpackInt 31 = .ok (.i2b, 1) := dk_145 (dk_by (by decide +kernel))
theorem dX3_unpackInt_32 : decode cX3_unpackInt 32 = .ok (.bastore, 1) := dk_84 (dk_by (by decide +kernel))
theorem dX3_unpackInt_33 : decode cX3_unpackInt 33 = .ok (.aload_n 2, 1) := dk_44 (dk_by (by decide +kernel))
theorem dX3_unpackInt_34 : decode cX3_unpackInt 34 = .ok (.iload_n 3, 1) := dk_29 (dk_by (by decide +kernel))
theorem dX3_unpackInt_35 : decode cX3_unpackInt 35 = .ok (.iload_n 1, 1) := dk_27 (dk_by (by decide +kernel))
theorem dX3_unpackInt_36 : decode cX3_unpackInt 36 = .ok (.i2b, 1) := dk_145 (dk_by (by decide +kernel))
theorem dX3_unpackInt_37 : decode cX3_unpackInt 37 = .ok (.bastore, 1) := dk_84 (dk_by (by decide +kernel))
theorem dX3_unpackInt_38 : decode cX3_unpackInt 38 = .ok (.return_, 1) := dk_177 (dk_by (by decide +kernel))
abbrev cX3_decryptBlock : ByteArray := prog_11_method_6_code
def yX3_decryptBlock : MethodName := ⟨RX3, "decryptBlock", "([BI[BI)I"⟩
theorem dX3_decryptBlock_0 : decode cX3_decryptBlock 0 = .ok (.aload_n 0, 1) := dk_42 (dk_by (by decide +kernel))
theorem dX3_decryptBlock_1 : decode cX3_decryptBlock 1 = .ok (.aload_n 1, 1) := dk_43 (dk_by (by decide +kernel))
theorem dX3_decryptBlock_2 : decode cX3_decryptBlock 2 = .ok (.iload_n 2, 1) := dk_28 (dk_by (by decide +kernel))
theorem dX3_decryptBlock_3 : decode cX3_decryptBlock 3 = .ok (.invokevirtual 65, 3) := dk_182 0 65 (dk_by (by decide +kernel))
theorem dX3_decryptBlock_6 : decode cX3_decryptBlock 6 = .ok (.istore 5, 2) := dk_54 5 (dk_by (by decide +kernel))
theorem dX3_decryptBlock_8 : decode cX3_decryptBlock 8 = .ok (.aload_n 0, 1) := dk_42 (dk_by (by decide +kernel))
theorem dX3_decryptBlock_9 : decode cX3_decryptBlock 9 = .ok (.aload_n 1, 1) := dk_43 (dk_by (by decide +kernel))
theorem dX3_decryptBlock_10 : decode cX3_decryptBlock 10 = .ok (.iload_n 2, 1) := dk_28 (dk_by (by decide +kernel))
theorem dX3_decryptBlock_11 : decode cX3_decryptBlock 11 = .ok (.iconst 4, 1) := dk_7 (dk_by (by decide +kernel))
theorem dX3_decryptBlock_12 : decode cX3_decryptBlock 12 = .ok (.iadd, 1) := dk_96 (dk_by (by decide +kernel))
theorem dX3_decryptBlock_13 : decode cX3_decryptBlock 13 = .ok (.invokevirtual 65, 3) := dk_182 0 65 (dk_by (by decide +kernel))
theorem dX3_decryptBlock_16 : decode cX3_decryptBlock 16 = .ok (.istore 6, 2) := dk_54 6 (dk_by (by decide +kernel))
theorem dX3_decryptBlock_18 : decode cX3_decryptBlock 18 = .ok (.bipush 31, 2) := dk_16 31 (dk_by (by decide +kernel))
theorem dX3_decryptBlock_20 : decode cX3_decryptBlock 20 = .ok (.istore 7, 2) := dk_54 7 (dk_by (by decide +kernel))
theorem dX3_decryptBlock_22 : decode cX3_decryptBlock 22 = .ok (.iload 7, 2) := dk_21 7 (dk_by (by decide +kernel))
theorem dX3_decryptBlock_24 : decode cX3_decryptBlock 24 = .ok (.ifCond .lt 59, 3) := dk_155 0 59 (dk_by (by decide +kernel))
theorem dX3_decryptBlock_27 : decode cX3_decryptBlock 27 = .ok (.iload 6, 2) := dk_21 6 (dk_by (by decide +kernel))
theorem dX3_decryptBlock_29 : decode cX3_decryptBlock 29 = .ok (.iload 5, 2) := dk_21 5 (dk_by (by decide +kernel))
theorem dX3_decryptBlock_31 : decode cX3_decryptBlock 31 = .ok (.iconst 4, 1) := dk_7 (dk_by (by decide +kernel))
theorem dX3_decryptBlock_32 : decode cX3_decryptBlock 32 = .ok (.ishl, 1) := dk_120 (dk_by (by decide +kernel))
theorem dX3_decryptBlock_33 : decode cX3_decryptBlock 33 = .ok (.iload 5, 2) := dk_21 5 (dk_by (by decide +kernel))
theorem dX3_decryptBlock_35 : decode cX3_decryptBlock 35 = .ok (.iconst 5, 1) := dk_8 (dk_by (by decide +kernel))
theorem dX3_decryptBlock_36 : decode cX3_decryptBlock 36 = .ok (.iushr, 1) := dk_124 (dk_by (by decide +kernel))
theorem dX3_decryptBlock_37 : decode cX3_decryptBlock 37 = .ok (.ixor, 1) := dk_130 (dk_by (by decide +kernel))
theorem dX3_decryptBlock_38 : decode cX3_decryptBlock 38 = .ok (.iload 5, 2) := dk_21 5 (dk_by (by decide +kernel))
theorem dX3_decryptBlock_40 : decode cX3_decryptBlock 40 = .ok (.iadd, 1) := dk_96 (dk_by (by decide +kernel))
theorem dX3_decryptBlock_41 : decode cX3_decryptBlock 41 = .ok (.aload_n 0, 1) := dk_42 (dk_by (by decide +kernel))
theorem dX3_decryptBlock_42 : decode cX3_decryptBlock 42 = .ok (.getfield 16, 3) := dk_180 0 16 (dk_by (by decide +kernel))
theorem dX3_decryptBlock_45 : decode cX3_decryptBlock 45 = .ok (.iload 7, 2) := dk_21 7 (dk_by (by decide +kernel))
theorem dX3_decryptBlock_47 : decode cX3_decryptBlock 47 = .ok (.iaload, 1) := dk_46 (dk_by (by decide +kernel))
theorem dX3_decryptBlock_48 : decode cX3_decryptBlock 48 = .ok (.ixor, 1) := dk_130 (dk_by (by decide +kernel))
theorem dX3_decryptBlock_49 : decode cX3_decryptBlock 49 = .ok (.isub, 1) := dk_100 (dk_by (by decide +kernel))
theorem dX3_decryptBlock_50 : decode cX3_decryptBlock 50 = .ok (.istore 6, 2) := dk_54 6 (dk_by (by decide +kernel))
theorem dX3_decryptBlock_52 : decode cX3_decryptBlock 52 = .ok (.iload 5, 2) := dk_21 5 (dk_by (by decide +kernel))
theorem dX3_decryptBlock_54 : decode cX3_decryptBlock 54 = .ok (.iload 6, 2) := dk_21 6 (dk_by (by decide +kernel))
theorem dX3_decryptBlock_56 : decode cX3_decryptBlock 56 = .ok (.iconst 4, 1) := dk_7 (dk_by (by decide +kernel))
theorem dX3_decryptBlock_57 : decode cX3_decryptBlock 57 = .ok (.ishl, 1) := dk_120 (dk_by (by decide +kernel))
theorem dX3_decryptBlock_58 : decode cX3_decryptBlock 58 = .ok (.iload 6, 2) := dk_21 6 (dk_by (by decide +kernel))
theorem dX3_decryptBlock_60 : decode cX3_decryptBlock 60 = .ok (.iconst 5, 1) := dk_8 (dk_by (by decide +kernel))
theorem dX3_decryptBlock_61 : decode cX3_decryptBlock 61 = .ok (.iushr, 1) := dk_124 (dk_by (by decide +kernel))
theorem dX3_decryptBlock_62 : decode cX3_decryptBlock 62 = .ok (.ixor, 1) := dk_130 (dk_by (by decide +kernel))
theorem dX3_decryptBlock_63 : decode cX3_decryptBlock 63 = .ok (.iload 6, 2) := dk_21 6 (dk_by (by decide +kernel))
theorem dX3_decryptBlock_65 : decode cX3_decryptBlock 65 = .ok (.iadd, 1) := dk_96 (dk_by (by decide +kernel))
theorem dX3_decryptBlock_66 : decode cX3_decryptBlock 66 = .ok (.aload_n 0, 1) := dk_42 (dk_by (by decide +kernel))
theorem dX3_decryptBlock_67 : decode cX3_decryptBlock 67 = .ok (.getfield 13, 3) := dk_180 0 13 (dk_by (by decide +kernel))
theorem dX3_decryptBlock_70 : decode cX3_decryptBlock 70 = .ok (.iload 7, 2) := dk_21 7 (dk_by (by decide +kernel))
theorem dX3_decryptBlock_72 : decode cX3_decryptBlock 72 = .ok (.iaload, 1) := dk_46 (dk_by (by decide +kernel))
theorem dX3_decryptBlock_73 : decode cX3_decryptBlock 73 = .ok (.ixor, 1) := dk_130 (dk_by (by decide +kernel))
theorem dX3_decryptBlock_74 : decode cX3_decryptBlock 74 = .ok (.isub, 1) := dk_100 (dk_by (by decide +kernel))
theorem dX3_decryptBlock_75 : decode cX3_decryptBlock 75 = .ok (.istore 5, 2) := dk_54 5 (dk_by (by decide +kernel))
theorem dX3_decryptBlock_77 : decode cX3_decryptBlock 77 = .ok (.iinc 7 (-1), 3) := dk_132 7 255 (dk_by (by decide +kernel))
theorem dX3_decryptBlock_80 : decode cX3_decryptBlock 80 = .ok (.goto (-58), 3) := dk_167 255 198 (dk_by (by decide +kernel))
theorem dX3_decryptBlock_83 : decode cX3_decryptBlock 83 = .ok (.aload_n 0, 1) := dk_42 (dk_by (by decide +kernel))
theorem dX3_decryptBlock_84 : decode cX3_decryptBlock 84 = .ok (.iload 5, 2) := dk_21 5 (dk_by (by decide +kernel))
theorem dX3_decryptBlock_86 : decode cX3_decryptBlock 86 = .ok (.aload_n 3, 1) := dk_45 (dk_by (by decide +kernel))
theorem dX3_decryptBlock_87 : decode cX3_decryptBlock 87 = .ok (.iload 4, 2) := dk_21 4 (dk_by (by decide +kernel))
theorem dX3_decryptBlock_89 : decode cX3_decryptBlock 89 = .ok (.invokevirtual 70, 3) := dk_182 0 70 (dk_by (by decide +kernel))
theorem dX3_decryptBlock_92 : decode cX3_decryptBlock 92 = .ok (.aload_n 0, 1) := dk_42 (dk_by (by decide +kernel))
theorem dX3_decryptBlock_93 : decode cX3_decryptBlock 93 = .ok (.iload 6, 2) := dk_21 6 (dk_by (by decide +kernel))
theorem dX3_decryptBlock_95 : decode cX3_decryptBlock 95 = .ok (.aload_n 3, 1) := dk_45 (dk_by (by decide +kernel))
theorem dX3_decryptBlock_96 : decode cX3_decryptBlock 96 = .ok (.iload 4, 2) := dk_21 4 (dk_by (by decide +kernel))
theorem dX3_decryptBlock_98 : decode cX3_decryptBlock 98 = .ok (.iconst 4, 1) := dk_7 (dk_by (by decide +kernel))
theorem dX3_decryptBlock_99 : decode cX3_decryptBlock 99 = .ok (.iadd, 1) := dk_96 (dk_by (by decide +kernel))
theorem dX3_decryptBlock_100 : decode cX3_decryptBlock 100 = .ok (.invokevirtual 70, 3) := dk_182 0 70 (dk_by (by decide +kernel))
theorem dX3_decryptBlock_103 : decode cX3_decryptBlock 103 = .ok (.bipush 8, 2) := dk_16 8 (dk_by (by decide +kernel))
theorem dX3_decryptBlock_105 : decode cX3_decryptBlock 105 = .ok (.ireturn, 1) := dk_172 (dk_by (by decide +kernel))
theorem q20 : (Jvm.Cond.initialized "XTEAEngine") ∈ lw_all := lw_g (lw_at lw_m1 4 rfl) rfl
theorem q98 : (Jvm.Cond.instantiable "XTEAEngine" (5 : Nat)) ∈ lw_all := lw_g (lw_at lw_m1 82 rfl) rfl
theorem q100 : (Jvm.Cond.instanceMethod ({ cls := "XTEAEngine", name := "<init>", desc := "()V" } : Jvm.MethodName)) ∈ lw_all := lw_g (lw_at lw_m1 84 rfl) rfl
theorem q101 : (Jvm.Cond.code ({ cls := "XTEAEngine", name := "<init>", desc := "()V" } : Jvm.MethodName) prog_11_method_1_code (1 : Nat) (Option.none : Option Jvm.ClassFile.FieldType)) ∈ lw_all := lw_g (lw_at lw_m1 85 rfl) rfl
theorem q102 : (Jvm.Cond.methodLink "XTEAEngine" (1 : Nat) ({ cls := "java/lang/Object", name := "<init>", desc := "()V" } : Jvm.MethodName)) ∈ lw_all := lw_g (lw_at lw_m1 86 rfl) rfl
theorem q103 : (Jvm.Cond.fieldLink "XTEAEngine" (7 : Nat) "XTEAEngine" "_S" "[I") ∈ lw_all := lw_g (lw_at lw_m1 87 rfl) rfl
theorem q104 : (Jvm.Cond.fieldLink "XTEAEngine" (13 : Nat) "XTEAEngine" "_sum0" "[I") ∈ lw_all := lw_g (lw_at lw_m1 88 rfl) rfl
theorem q105 : (Jvm.Cond.fieldLink "XTEAEngine" (16 : Nat) "XTEAEngine" "_sum1" "[I") ∈ lw_all := lw_g (lw_at lw_m1 89 rfl) rfl
theorem q106 : (Jvm.Cond.fieldLink "XTEAEngine" (19 : Nat) "XTEAEngine" "_initialised" "Z") ∈ lw_all := lw_g (lw_at lw_m1 90 rfl) rfl
theorem q107 : (Jvm.Cond.fieldLink "XTEAEngine" (32 : Nat) "XTEAEngine" "_forEncryption" "Z") ∈ lw_all := lw_g (lw_at lw_m1 91 rfl) rfl
theorem q108 : (Jvm.Cond.lays "XTEAEngine" "XTEAEngine" "_S" "[I") ∈ lw_all := lw_g (lw_at lw_m1 92 rfl) rfl
theorem q109 : (Jvm.Cond.soleField "XTEAEngine" "_S") ∈ lw_all := lw_g (lw_at lw_m1 93 rfl) rfl
theorem q110 : (Jvm.Cond.lays "XTEAEngine" "XTEAEngine" "_sum0" "[I") ∈ lw_all := lw_g (lw_at lw_m1 94 rfl) rfl
theorem q111 : (Jvm.Cond.soleField "XTEAEngine" "_sum0") ∈ lw_all := lw_g (lw_at lw_m1 95 rfl) rfl
theorem q112 : (Jvm.Cond.lays "XTEAEngine" "XTEAEngine" "_sum1" "[I") ∈ lw_all := lw_g (lw_at lw_m1 96 rfl) rfl
theorem q113 : (Jvm.Cond.soleField "XTEAEngine" "_sum1") ∈ lw_all := lw_g (lw_at lw_m1 97 rfl) rfl
theorem q114 : (Jvm.Cond.lays "XTEAEngine" "XTEAEngine" "_initialised" "Z") ∈ lw_all := lw_g (lw_at lw_m1 98 rfl) rfl
theorem q115 : (Jvm.Cond.soleField "XTEAEngine" "_initialised") ∈ lw_all := lw_g (lw_at lw_m1 99 rfl) rfl
theorem q116 : (Jvm.Cond.lays "XTEAEngine" "XTEAEngine" "_forEncryption" "Z") ∈ lw_all := lw_g (lw_at lw_m1 100 rfl) rfl
theorem q117 : (Jvm.Cond.soleField "XTEAEngine" "_forEncryption") ∈ lw_all := lw_g (lw_at lw_m1 101 rfl) rfl
theorem q118 : (Jvm.Cond.superclass "XTEAEngine" "java/lang/Object") ∈ lw_all := lw_g (lw_at lw_m1 102 rfl) rfl
theorem q231 : (Jvm.Cond.castable "XTEAEngine" "BlockCipher") ∈ lw_tbl := lw_at lw_m1 215 rfl
theorem q232 : (Jvm.Cond.selects "XTEAEngine" ({ cls := "BlockCipher", name := "init", desc := "(ZLCipherParameters;)V" } : Jvm.MethodName) ({ cls := "XTEAEngine", name := "init", desc := "(ZLCipherParameters;)V" } : Jvm.MethodName)) ∈ lw_all := lw_g (lw_at lw_m1 216 rfl) rfl
theorem q233 : (Jvm.Cond.unhidden "XTEAEngine" "init" "(ZLCipherParameters;)V") ∈ lw_tbl := lw_at lw_m1 217 rfl
theorem q234 : (Jvm.Cond.instanceMethod ({ cls := "XTEAEngine", name := "init", desc := "(ZLCipherParameters;)V" } : Jvm.MethodName)) ∈ lw_all := lw_g (lw_at lw_m1 218 rfl) rfl
theorem q235 : (Jvm.Cond.publicMethod ({ cls := "XTEAEngine", name := "init", desc := "(ZLCipherParameters;)V" } : Jvm.MethodName)) ∈ lw_tbl := lw_at lw_m1 219 rfl
theorem q236 : (Jvm.Cond.code ({ cls := "XTEAEngine", name := "init", desc := "(ZLCipherParameters;)V" } : Jvm.MethodName) prog_11_method_2_code (4 : Nat) (Option.none : Option Jvm.ClassFile.FieldType)) ∈ lw_all := lw_g (lw_at lw_m1 220 rfl) rfl
theorem q237 : (Jvm.Cond.classLink "XTEAEngine" (23 : Nat) "KeyParameter") ∈ lw_all := lw_g (lw_at lw_m1 221 rfl) rfl
theorem q238 : (Jvm.Cond.classLink "XTEAEngine" (25 : Nat) "java/lang/IllegalArgumentException") ∈ lw_all := lw_g (lw_at lw_m1 222 rfl) rfl
theorem q240 : (Jvm.Cond.methodLink "XTEAEngine" (29 : Nat) ({ cls := "java/lang/IllegalArgumentException", name := "<init>", desc := "(Ljava/lang/String;)V" } : Jvm.MethodName)) ∈ lw_all := lw_g (lw_at lw_m1 224 rfl) rfl
theorem q241 : (Jvm.Cond.methodLink "XTEAEngine" (35 : Nat) ({ cls := "KeyParameter", name := "getKey", desc := "()[B" } : Jvm.MethodName)) ∈ lw_all := lw_g (lw_at lw_m1 225 rfl) rfl
theorem q242 : (Jvm.Cond.methodLink "XTEAEngine" (39 : Nat) ({ cls := "XTEAEngine", name := "setKey", desc := "([B)V" } : Jvm.MethodName)) ∈ lw_all := lw_g (lw_at lw_m1 226 rfl) rfl
theorem q243 : (Jvm.Cond.privateMethod ({ cls := "XTEAEngine", name := "setKey", desc := "([B)V" } : Jvm.MethodName)) ∈ lw_tbl := lw_at lw_m1 227 rfl
theorem q244 : (Jvm.Cond.instanceMethod ({ cls := "XTEAEngine", name := "setKey", desc := "([B)V" } : Jvm.MethodName)) ∈ lw_all := lw_g (lw_at lw_m1 228 rfl) rfl
theorem q245 : (Jvm.Cond.code ({ cls := "XTEAEngine", name := "setKey", desc := "([B)V" } : Jvm.MethodName) prog_11_method_4_code (4 : Nat) (Option.none : Option Jvm.ClassFile.FieldType)) ∈ lw_all := lw_g (lw_at lw_m1 229 rfl) rfl
theorem q247 : (Jvm.Cond.methodLink "XTEAEngine" (65 : Nat) ({ cls := "XTEAEngine", name := "bytesToInt", desc := "([BI)I" } : Jvm.MethodName)) ∈ lw_all := lw_g (lw_at lw_m1 231 rfl) rfl
theorem q248 : (Jvm.Cond.privateMethod ({ cls := "XTEAEngine", name := "bytesToInt", desc := "([BI)I" } : Jvm.MethodName)) ∈ lw_tbl := lw_at lw_m1 232 rfl
theorem q249 : (Jvm.Cond.instanceMethod ({ cls := "XTEAEngine", name := "bytesToInt", desc := "([BI)I" } : Jvm.MethodName)) ∈ lw_all := lw_g (lw_at lw_m1 233 rfl) rfl
theorem q250 : (Jvm.Cond.code ({ cls := "XTEAEngine", name := "bytesToInt", desc := "([BI)I" } : Jvm.MethodName) prog_11_method_7_code (3 : Nat) (Option.some Jvm.ClassFile.FieldType.int)) ∈ lw_all := lw_g (lw_at lw_m1 234 rfl) rfl
theorem q251 : (Jvm.Cond.constant "XTEAEngine" (69 : Nat) (1640531527 : Int32)) ∈ lw_all := lw_g (lw_at lw_m1 235 rfl) rfl
theorem q327 : (Jvm.Cond.selects "XTEAEngine" ({ cls := "BlockCipher", name := "processBlock", desc := "([BI[BI)I" } : Jvm.MethodName) ({ cls := "XTEAEngine", name := "processBlock", desc := "([BI[BI)I" } : Jvm.MethodName)) ∈ lw_all := lw_g (lw_at lw_m2 71 rfl) rfl
theorem q328 : (Jvm.Cond.unhidden "XTEAEngine" "processBlock" "([BI[BI)I") ∈ lw_tbl := lw_at lw_m2 72 rfl
theorem q329 : (Jvm.Cond.instanceMethod ({ cls := "XTEAEngine", name := "processBlock", desc := "([BI[BI)I" } : Jvm.MethodName)) ∈ lw_all := lw_g (lw_at lw_m2 73 rfl) rfl
theorem q330 : (Jvm.Cond.publicMethod ({ cls := "XTEAEngine", name := "processBlock", desc := "([BI[BI)I" } : Jvm.MethodName)) ∈ lw_tbl := lw_at lw_m2 74 rfl
theorem q331 : (Jvm.Cond.code ({ cls := "XTEAEngine", name := "processBlock", desc := "([BI[BI)I" } : Jvm.MethodName) prog_11_method_3_code (5 : Nat) (Option.some Jvm.ClassFile.FieldType.int)) ∈ lw_all := lw_g (lw_at lw_m2 75 rfl) rfl
theorem q332 : (Jvm.Cond.classLink "XTEAEngine" (43 : Nat) "java/lang/IllegalStateException") ∈ lw_all := lw_g (lw_at lw_m2 76 rfl) rfl
theorem q333 : (Jvm.Cond.methodLink "XTEAEngine" (45 : Nat) ({ cls := "java/lang/IllegalStateException", name := "<init>", desc := "(Ljava/lang/String;)V" } : Jvm.MethodName)) ∈ lw_all := lw_g (lw_at lw_m2 77 rfl) rfl
theorem q334 : (Jvm.Cond.classLink "XTEAEngine" (46 : Nat) "DataLengthException") ∈ lw_all := lw_g (lw_at lw_m2 78 rfl) rfl
theorem q336 : (Jvm.Cond.methodLink "XTEAEngine" (50 : Nat) ({ cls := "DataLengthException", name := "<init>", desc := "(Ljava/lang/String;)V" } : Jvm.MethodName)) ∈ lw_all := lw_g (lw_at lw_m2 80 rfl) rfl
theorem q337 : (Jvm.Cond.classLink "XTEAEngine" (51 : Nat) "OutputLengthException") ∈ lw_all := lw_g (lw_at lw_m2 81 rfl) rfl
theorem q339 : (Jvm.Cond.methodLink "XTEAEngine" (55 : Nat) ({ cls := "OutputLengthException", name := "<init>", desc := "(Ljava/lang/String;)V" } : Jvm.MethodName)) ∈ lw_all := lw_g (lw_at lw_m2 83 rfl) rfl
theorem q340 : (Jvm.Cond.methodLink "XTEAEngine" (56 : Nat) ({ cls := "XTEAEngine", name := "encryptBlock", desc := "([BI[BI)I" } : Jvm.MethodName)) ∈ lw_all := lw_g (lw_at lw_m2 84 rfl) rfl
theorem q341 : (Jvm.Cond.privateMethod ({ cls := "XTEAEngine", name := "encryptBlock", desc := "([BI[BI)I" } : Jvm.MethodName)) ∈ lw_tbl := lw_at lw_m2 85 rfl
theorem q342 : (Jvm.Cond.instanceMethod ({ cls := "XTEAEngine", name := "encryptBlock", desc := "([BI[BI)I" } : Jvm.MethodName)) ∈ lw_all := lw_g (lw_at lw_m2 86 rfl) rfl
theorem q343 : (Jvm.Cond.code ({ cls := "XTEAEngine", name := "encryptBlock", desc := "([BI[BI)I" } : Jvm.MethodName) prog_11_method_5_code (8 : Nat) (Option.some Jvm.ClassFile.FieldType.int)) ∈ lw_all := lw_g (lw_at lw_m2 87 rfl) rfl
theorem q344 : (Jvm.Cond.methodLink "XTEAEngine" (70 : Nat) ({ cls := "XTEAEngine", name := "unpackInt", desc := "(I[BI)V" } : Jvm.MethodName)) ∈ lw_all := lw_g (lw_at lw_m2 88 rfl) rfl
theorem q345 : (Jvm.Cond.privateMethod ({ cls := "XTEAEngine", name := "unpackInt", desc := "(I[BI)V" } : Jvm.MethodName)) ∈ lw_tbl := lw_at lw_m2 89 rfl
theorem q346 : (Jvm.Cond.instanceMethod ({ cls := "XTEAEngine", name := "unpackInt", desc := "(I[BI)V" } : Jvm.MethodName)) ∈ lw_all := lw_g (lw_at lw_m2 90 rfl) rfl
theorem q347 : (Jvm.Cond.code ({ cls := "XTEAEngine", name := "unpackInt", desc := "(I[BI)V" } : Jvm.MethodName) prog_11_method_8_code (4 : Nat) (Option.none : Option Jvm.ClassFile.FieldType)) ∈ lw_all := lw_g (lw_at lw_m2 91 rfl) rfl
theorem q348 : (Jvm.Cond.methodLink "XTEAEngine" (60 : Nat) ({ cls := "XTEAEngine", name := "decryptBlock", desc := "([BI[BI)I" } : Jvm.MethodName)) ∈ lw_all := lw_g (lw_at lw_m2 92 rfl) rfl
theorem q349 : (Jvm.Cond.privateMethod ({ cls := "XTEAEngine", name := "decryptBlock", desc := "([BI[BI)I" } : Jvm.MethodName)) ∈ lw_tbl := lw_at lw_m2 93 rfl
theorem q350 : (Jvm.Cond.instanceMethod ({ cls := "XTEAEngine", name := "decryptBlock", desc := "([BI[BI)I" } : Jvm.MethodName)) ∈ lw_all := lw_g (lw_at lw_m2 94 rfl) rfl
theorem q351 : (Jvm.Cond.code ({ cls := "XTEAEngine", name := "decryptBlock", desc := "([BI[BI)I" } : Jvm.MethodName) prog_11_method_6_code (8 : Nat) (Option.some Jvm.ClassFile.FieldType.int)) ∈ lw_all := lw_g (lw_at lw_m2 95 rfl) rfl
theorem in_X3 : ∀ w ∈ wsX30, w ∈ lw_all := lw_in wsX30 [108, 110, 112, 114, 116] (by decide +kernel) (by decide +kernel)
/-! names: X4.KeyParameter -/
/-! KeyParameter -/
def RX4 : String := "KeyParameter"
def TX4 : u_T := fun k => match k with
  | _ => ("KeyParameter", "key", "[B", false)
def tyX4 : Nat → FieldType := fun k => match k with
  | _ => .array .byte
abbrev wsX40 : List Cond := u_ws RX4 TX4 1
theorem nmX4 : ∀ a, a < 1 → ∀ b, b < 1 → a ≠ b → (TX4 a).2.1 ≠ (TX4 b).2.1 := by decide +kernel
theorem tyX4_ok : ∀ k, k < 1 → parseFieldDescriptor (TX4 k).2.2.1 = some (tyX4 k) := by decide +kernel
abbrev cX4_init : ByteArray := prog_4_method_1_code
def yX4_init : MethodName := ⟨RX4, "<init>", "([B)V"⟩
theorem dX4_init_0 : decode cX4_init 0 = .ok (.aload_n 0, 1) := dk_42 (dk_by (by decide +kernel))
theorem dX4_init_1 : decode cX4_init 1 = .ok (.aload_n 1, 1) := dk_43 (dk_by (by decide +kernel))
theorem dX4_init_2 : decode cX4_init 2 = .ok (.iconst 0, 1) := dk_3 (dk_by (by decide +kernel))
theorem dX4_init_3 : decode cX4_init 3 = .ok (.aload_n 1, 1) := dk_43 (dk_by (by decide +kernel))
theorem dX4_init_4 : decode cX4_init 4 = .ok (.arraylength, 1) := dk_190 (dk_by (by decide +kernel))
theorem dX4_init_5 : decode cX4_init 5 = .ok (.invokespecial 1, 3) := dk_183 0 1 (dk_by (by decide +kernel))
theorem dX4_init_8 : decode cX4_init 8 = .ok (.return_, 1) := dk_177 (dk_by (by decide +kernel))
abbrev cX4_init_2 : ByteArray := prog_4_method_2_code
def yX4_init_2 : MethodName := ⟨RX4, "<init>", "([BII)V"⟩
theorem dX4_init_2_0 : decode cX4_init_2 0 = .ok (.aload_n 0, 1) := dk_42 (dk_by (by decide +kernel))
theorem dX4_init_2_1 : decode cX4_init_2 1 = .ok (.iload_n 3, 1) := dk_29 (dk_by (by decide +kernel))
theorem dX4_init_2_2 : decode cX4_init_2 2 = .ok (.invokespecial 7, 3) := dk_183 0 7 (dk_by (by decide +kernel))
theorem dX4_init_2_5 : decode cX4_init_2 5 = .ok (.aload_n 1, 1) := dk_43 (dk_by (by decide +kernel))
theorem dX4_init_2_6 : decode cX4_init_2 6 = .ok (.iload_n 2, 1) := dk_28 (dk_by (by decide +kernel))
theorem dX4_init_2_7 : decode cX4_init_2 7 = .ok (.aload_n 0, 1) := dk_42 (dk_by (by decide +kernel))
theorem dX4_init_2_8 : decode cX4_init_2 8 = .ok (.getfield 10, 3) := dk_180 0 10 (dk_by (by decide +kernel))
theorem dX4_init_2_11 : decode cX4_init_2 11 = .ok (.iconst 0, 1) := dk_3 (dk_by (by decide +kernel))
theorem dX4_init_2_12 : decode cX4_init_2 12 = .ok (.iload_n 3, 1) := dk_29 (dk_by (by decide +kernel))
theorem dX4_init_2_13 : decode cX4_init_2 13 = .ok (.invokestatic 14, 3) := dk_184 0 14 (dk_by (by decide +kernel))
theorem dX4_init_2_16 : decode cX4_init_2 16 = .ok (.return_, 1) := dk_177 (dk_by (by decide +kernel))
abbrev cX4_init_3 : ByteArray := prog_4_method_3_code
def yX4_init_3 : MethodName := ⟨RX4, "<init>", "(I)V"⟩
theorem dX4_init_3_0 : decode cX4_init_3 0 = .ok (.aload_n 0, 1) := dk_42 (dk_by (by decide +kernel))
theorem dX4_init_3_1 : decode cX4_init_3 1 = .ok (.invokespecial 20, 3) := dk_183 0 20 (dk_by (by decide +kernel))
theorem dX4_init_3_4 : decode cX4_init_3 4 = .ok (.aload_n 0, 1) := dk_42 (dk_by (by decide +kernel))
theorem dX4_init_3_5 : decode cX4_init_3 5 = .ok (.iload_n 1, 1) := dk_27 (dk_by (by decide +kernel))
theorem dX4_init_3_6 : decode cX4_init_3 6 = .ok (.newarray .byte, 2) := dk_188_8 (dk_by (by decide +kernel))
theorem dX4_init_3_8 : decode cX4_init_3 8 = .ok (.putfield 10, 3) := dk_181 0 10 (dk_by (by decide +kernel))
theorem dX4_init_3_11 : decode cX4_init_3 11 = .ok (.return_, 1) := dk_177 (dk_by (by decide +kernel))
abbrev cX4_getKey : ByteArray := prog_4_method_4_code
def yX4_getKey : MethodName := ⟨RX4, "getKey", "()[B"⟩
theorem dX4_getKey_0 : decode cX4_getKey 0 = .ok (.aload_n 0, 1) := by decide +kernel
theorem dX4_getKey_1 : decode cX4_getKey 1 = .ok (.getfield 10, 3) := by decide +kernel
theorem dX4_getKey_4 : decode cX4_getKey 4 = .ok (.areturn, 1) := by decide +kernel
theorem q21 : (Jvm.Cond.initialized "KeyParameter") ∈ lw_all := lw_g (lw_at lw_m1 5 rfl) rfl
theorem q121 : (Jvm.Cond.instantiable "KeyParameter" (1 : Nat)) ∈ lw_all := lw_g (lw_at lw_m1 105 rfl) rfl
theorem q123 : (Jvm.Cond.instanceMethod ({ cls := "KeyParameter", name := "<init>", desc := "([B)V" } : Jvm.MethodName)) ∈ lw_all := lw_g (lw_at lw_m1 107 rfl) rfl
theorem q124 : (Jvm.Cond.code ({ cls := "KeyParameter", name := "<init>", desc := "([B)V" } : Jvm.MethodName) prog_4_method_1_code (2 : Nat) (Option.none : Option Jvm.ClassFile.FieldType)) ∈ lw_all := lw_g (lw_at lw_m1 108 rfl) rfl
theorem q125 : (Jvm.Cond.methodLink "KeyParameter" (1 : Nat) ({ cls := "KeyParameter", name := "<init>", desc := "([BII)V" } : Jvm.MethodName)) ∈ lw_all := lw_g (lw_at lw_m1 109 rfl) rfl
theorem q126 : (Jvm.Cond.instanceMethod ({ cls := "KeyParameter", name := "<init>", desc := "([BII)V" } : Jvm.MethodName)) ∈ lw_all := lw_g (lw_at lw_m1 110 rfl) rfl
theorem q127 : (Jvm.Cond.code ({ cls := "KeyParameter", name := "<init>", desc := "([BII)V" } : Jvm.MethodName) prog_4_method_2_code (4 : Nat) (Option.none : Option Jvm.ClassFile.FieldType)) ∈ lw_all := lw_g (lw_at lw_m1 111 rfl) rfl
theorem q128 : (Jvm.Cond.methodLink "KeyParameter" (7 : Nat) ({ cls := "KeyParameter", name := "<init>", desc := "(I)V" } : Jvm.MethodName)) ∈ lw_all := lw_g (lw_at lw_m1 112 rfl) rfl
theorem q129 : (Jvm.Cond.instanceMethod ({ cls := "KeyParameter", name := "<init>", desc := "(I)V" } : Jvm.MethodName)) ∈ lw_all := lw_g (lw_at lw_m1 113 rfl) rfl
theorem q130 : (Jvm.Cond.code ({ cls := "KeyParameter", name := "<init>", desc := "(I)V" } : Jvm.MethodName) prog_4_method_3_code (2 : Nat) (Option.none : Option Jvm.ClassFile.FieldType)) ∈ lw_all := lw_g (lw_at lw_m1 114 rfl) rfl
theorem q131 : (Jvm.Cond.methodLink "KeyParameter" (20 : Nat) ({ cls := "java/lang/Object", name := "<init>", desc := "()V" } : Jvm.MethodName)) ∈ lw_all := lw_g (lw_at lw_m1 115 rfl) rfl
theorem q132 : (Jvm.Cond.fieldLink "KeyParameter" (10 : Nat) "KeyParameter" "key" "[B") ∈ lw_all := lw_g (lw_at lw_m1 116 rfl) rfl
theorem q133 : (Jvm.Cond.lays "KeyParameter" "KeyParameter" "key" "[B") ∈ lw_all := lw_g (lw_at lw_m1 117 rfl) rfl
theorem q134 : (Jvm.Cond.soleField "KeyParameter" "key") ∈ lw_all := lw_g (lw_at lw_m1 118 rfl) rfl
theorem q135 : (Jvm.Cond.superclass "KeyParameter" "java/lang/Object") ∈ lw_all := lw_g (lw_at lw_m1 119 rfl) rfl
theorem q136 : (Jvm.Cond.methodLink "KeyParameter" (14 : Nat) ({ cls := "java/lang/System", name := "arraycopy", desc := "(Ljava/lang/Object;ILjava/lang/Object;II)V" } : Jvm.MethodName)) ∈ lw_all := lw_g (lw_at lw_m1 120 rfl) rfl
theorem q219 : (Jvm.Cond.instanceMethod ({ cls := "KeyParameter", name := "getKey", desc := "()[B" } : Jvm.MethodName)) ∈ lw_all := lw_g (lw_at lw_m1 203 rfl) rfl
theorem q220 : (Jvm.Cond.selects "KeyParameter" ({ cls := "KeyParameter", name := "getKey", desc := "()[B" } : Jvm.MethodName) ({ cls := "KeyParameter", name := "getKey", desc := "()[B" } : Jvm.MethodName)) ∈ lw_all := lw_g (lw_at lw_m1 204 rfl) rfl
theorem q221 : (Jvm.Cond.code ({ cls := "KeyParameter", name := "getKey", desc := "()[B" } : Jvm.MethodName) prog_4_method_4_code (1 : Nat) (Option.some (Jvm.ClassFile.FieldType.array Jvm.ClassFile.FieldType.byte))) ∈ lw_all := lw_g (lw_at lw_m1 205 rfl) rfl
theorem in_X4 : ∀ w ∈ wsX40, w ∈ lw_all := lw_in wsX40 [133] (by decide +kernel) (by decide +kernel)
/-! names: L.law -/
/-! the law's own entry -/
abbrev cL_law : ByteArray := code
theorem dL_law_0 : decode cL_law 0 = .ok (.new 7, 3) := dk_187 0 7 (dk_by (by decide +kernel))
theorem dL_law_3 : decode cL_law 3 = .ok (.dup, 1) := dk_89 (dk_by (by decide +kernel))
theorem dL_law_4 : decode cL_law 4 = .ok (.invokespecial 9, 3) := dk_183 0 9 (dk_by (by decide +kernel))
theorem dL_law_7 : decode cL_law 7 = .ok (.astore_n 1, 1) := dk_76 (dk_by (by decide +kernel))
theorem dL_law_8 : decode cL_law 8 = .ok (.new 10, 3) := dk_187 0 10 (dk_by (by decide +kernel))
theorem dL_law_11 : decode cL_law 11 = .ok (.dup, 1) := dk_89 (dk_by (by decide +kernel))
theorem dL_law_12 : decode cL_law 12 = .ok (.invokespecial 12, 3) := dk_183 0 12 (dk_by (by decide +kernel))
theorem dL_law_15 : decode cL_law 15 = .ok (.astore_n 2, 1) := dk_77 (dk_by (by decide +kernel))
theorem dL_law_16 : decode cL_law 16 = .ok (.iconst 0, 1) := dk_3 (dk_by (by decide +kernel))
theorem dL_law_17 : decode cL_law 17 = .ok (.istore_n 3, 1) := dk_62 (dk_by (by decide +kernel))
theorem dL_law_18 : decode cL_law 18 = .ok (.iload_n 3, 1) := dk_29 (dk_by (by decide +kernel))
theorem dL_law_19 : decode cL_law 19 = .ok (.aload_n 0, 1) := dk_42 (dk_by (by decide +kernel))
theorem dL_law_20 : decode cL_law 20 = .ok (.arraylength, 1) := dk_190 (dk_by (by decide +kernel))
theorem dL_law_21 : decode cL_law 21 = .ok (.bipush 6, 2) := dk_16 6 (dk_by (by decide +kernel))
theorem dL_law_23 : decode cL_law 23 = .ok (.isub, 1) := dk_100 (dk_by (by decide +kernel))
theorem dL_law_24 : decode cL_law 24 = .ok (.if_icmp .gt 222, 3) := dk_163 0 222 (dk_by (by decide +kernel))
theorem dL_law_27 : decode cL_law 27 = .ok (.aload_n 0, 1) := dk_42 (dk_by (by decide +kernel))
theorem dL_law_28 : decode cL_law 28 = .ok (.iload_n 3, 1) := dk_29 (dk_by (by decide +kernel))
theorem dL_law_29 : decode cL_law 29 = .ok (.iaload, 1) := dk_46 (dk_by (by decide +kernel))
theorem dL_law_30 : decode cL_law 30 = .ok (.bipush 7, 2) := dk_16 7 (dk_by (by decide +kernel))
theorem dL_law_32 : decode cL_law 32 = .ok (.iand, 1) := dk_126 (dk_by (by decide +kernel))
theorem dL_law_33 : decode cL_law 33 = .ok (.tableswitch 207 0 5 #[39, 100, 131, 152, 173, 184], 39) := by decide +kernel
theorem dL_law_72 : decode cL_law 72 = .ok (.aload_n 1, 1) := dk_43 (dk_by (by decide +kernel))
theorem dL_law_73 : decode cL_law 73 = .ok (.aload_n 0, 1) := dk_42 (dk_by (by decide +kernel))
theorem dL_law_74 : decode cL_law 74 = .ok (.iload_n 3, 1) := dk_29 (dk_by (by decide +kernel))
theorem dL_law_75 : decode cL_law 75 = .ok (.iconst 1, 1) := dk_4 (dk_by (by decide +kernel))
theorem dL_law_76 : decode cL_law 76 = .ok (.iadd, 1) := dk_96 (dk_by (by decide +kernel))
theorem dL_law_77 : decode cL_law 77 = .ok (.iaload, 1) := dk_46 (dk_by (by decide +kernel))
theorem dL_law_78 : decode cL_law 78 = .ok (.aload_n 0, 1) := dk_42 (dk_by (by decide +kernel))
theorem dL_law_79 : decode cL_law 79 = .ok (.iload_n 3, 1) := dk_29 (dk_by (by decide +kernel))
theorem dL_law_80 : decode cL_law 80 = .ok (.iconst 2, 1) := dk_5 (dk_by (by decide +kernel))
theorem dL_law_81 : decode cL_law 81 = .ok (.iadd, 1) := dk_96 (dk_by (by decide +kernel))
theorem dL_law_82 : decode cL_law 82 = .ok (.iaload, 1) := dk_46 (dk_by (by decide +kernel))
theorem dL_law_83 : decode cL_law 83 = .ok (.aload_n 0, 1) := dk_42 (dk_by (by decide +kernel))
theorem dL_law_84 : decode cL_law 84 = .ok (.iload_n 3, 1) := dk_29 (dk_by (by decide +kernel))
theorem dL_law_85 : decode cL_law 85 = .ok (.iconst 3, 1) := dk_6 (dk_by (by decide +kernel))
theorem dL_law_86 : decode cL_law 86 = .ok (.iadd, 1) := dk_96 (dk_by (by decide +kernel))
theorem dL_law_87 : decode cL_law 87 = .ok (.iaload, 1) := dk_46 (dk_by (by decide +kernel))
theorem dL_law_88 : decode cL_law 88 = .ok (.aload_n 0, 1) := dk_42 (dk_by (by decide +kernel))
theorem dL_law_89 : decode cL_law 89 = .ok (.iload_n 3, 1) := dk_29 (dk_by (by decide +kernel))
theorem dL_law_90 : decode cL_law 90 = .ok (.iconst 4, 1) := dk_7 (dk_by (by decide +kernel))
theorem dL_law_91 : decode cL_law 91 = .ok (.iadd, 1) := dk_96 (dk_by (by decide +kernel))
theorem dL_law_92 : decode cL_law 92 = .ok (.iaload, 1) := dk_46 (dk_by (by decide +kernel))
theorem dL_law_93 : decode cL_law 93 = .ok (.aload_n 0, 1) := dk_42 (dk_by (by decide +kernel))
theorem dL_law_94 : decode cL_law 94 = .ok (.iload_n 3, 1) := dk_29 (dk_by (by decide +kernel))
theorem dL_law_95 : decode cL_law 95 = .ok (.iconst 5, 1) := dk_8 (dk_by (by decide +kernel))
theorem dL_law_96 : decode cL_law 96 = .ok (.iadd, 1) := dk_96 (dk_by (by decide +kernel))
theorem dL_law_97 : decode cL_law 97 = .ok (.iaload, 1) := dk_46 (dk_by (by decide +kernel))
theorem dL_law_98 : decode cL_law 98 = .ok (.invokevirtual 13, 3) := dk_182 0 13 (dk_by (by decide +kernel))
theorem dL_law_101 : decode cL_law 101 = .ok (.aload_n 2, 1) := dk_44 (dk_by (by decide +kernel))
theorem dL_law_102 : decode cL_law 102 = .ok (.aload_n 0, 1) := dk_42 (dk_by (by decide +kernel))
theorem dL_law_103 : decode cL_law 103 = .ok (.iload_n 3, 1) := dk_29 (dk_by (by decide +kernel))
theorem dL_law_104 : decode cL_law 104 = .ok (.iconst 1, 1) := dk_4 (dk_by (by decide +kernel))
theorem dL_law_105 : decode cL_law 105 = .ok (.iadd, 1) := dk_96 (dk_by (by decide +kernel))
theorem dL_law_106 : decode cL_law 106 = .ok (.iaload, 1) := dk_46 (dk_by (by decide +kernel))
theorem dL_law_107 : decode cL_law 107 = .ok (.aload_n 0, 1) := dk_42 (dk_by (by decide +kernel))
theorem dL_law_108 : decode cL_law 108 = .ok (.iload_n 3, 1) := dk_29 (dk_by (by decide +kernel))
theorem dL_law_109 : decode cL_law 109 = .ok (.iconst 2, 1) := dk_5 (dk_by (by decide +kernel))
theorem dL_law_110 : decode cL_law 110 = .ok (.iadd, 1) := dk_96 (dk_by (by decide +kernel))
theorem dL_law_111 : decode cL_law 111 = .ok (.iaload, 1) := dk_46 (dk_by (by decide +kernel))
theorem dL_law_112 : decode cL_law 112 = .ok (.aload_n 0, 1) := dk_42 (dk_by (by decide +kernel))
theorem dL_law_113 : decode cL_law 113 = .ok (.iload_n 3, 1) := dk_29 (dk_by (by decide +kernel))
theorem dL_law_114 : decode cL_law 114 = .ok (.iconst 3, 1) := dk_6 (dk_by (by decide +kernel))
theorem dL_law_115 : decode cL_law 115 = .ok (.iadd, 1) := dk_96 (dk_by (by decide +kernel))
theorem dL_law_116 : decode cL_law 116 = .ok (.iaload, 1) := dk_46 (dk_by (by decide +kernel))
theorem dL_law_117 : decode cL_law 117 = .ok (.aload_n 0, 1) := dk_42 (dk_by (by decide +kernel))
theorem dL_law_118 : decode cL_law 118 = .ok (.iload_n 3, 1) := dk_29 (dk_by (by decide +kernel))
theorem dL_law_119 : decode cL_law 119 = .ok (.iconst 4, 1) := dk_7 (dk_by (by decide +kernel))
theorem dL_law_120 : decode cL_law 120 = .ok (.iadd, 1) := dk_96 (dk_by (by decide +kernel))
theorem dL_law_121 : decode cL_law 121 = .ok (.iaload, 1) := dk_46 (dk_by (by decide +kernel))
theorem dL_law_122 : decode cL_law 122 = .ok (.aload_n 0, 1) := dk_42 (dk_by (by decide +kernel))
theorem dL_law_123 : decode cL_law 123 = .ok (.iload_n 3, 1) := dk_29 (dk_by (by decide +kernel))
theorem dL_law_124 : decode cL_law 124 = .ok (.iconst 5, 1) := dk_8 (dk_by (by decide +kernel))
theorem dL_law_125 : decode cL_law 125 = .ok (.iadd, 1) := dk_96 (dk_by (by decide +kernel))
theorem dL_law_126 : decode cL_law 126 = .ok (.iaload, 1) := dk_46 (dk_by (by decide +kernel))
theorem dL_law_127 : decode cL_law 127 = .ok (.invokevirtual 17, 3) := dk_182 0 17 (dk_by (by decide +kernel))
theorem dL_law_130 : decode cL_law 130 = .ok (.goto 110, 3) := dk_167 0 110 (dk_by (by decide +kernel))
theorem dL_law_133 : decode cL_law 133 = .ok (.aload_n 1, 1) := dk_43 (dk_by (by decide +kernel))
theorem dL_law_134 : decode cL_law 134 = .ok (.aload_n 0, 1) := dk_42 (dk_by (by decide +kernel))
theorem dL_law_135 : decode cL_law 135 = .ok (.iload_n 3, 1) := dk_29 (dk_by (by decide +kernel))
theorem dL_law_136 : decode cL_law 136 = .ok (.iconst 1, 1) := dk_4 (dk_by (by decide +kernel))
theorem dL_law_137 : decode cL_law 137 = .ok (.iadd, 1) := dk_96 (dk_by (by decide +kernel))
theorem dL_law_138 : decode cL_law 138 = .ok (.iaload, 1) := dk_46 (dk_by (by decide +kernel))
theorem dL_law_139 : decode cL_law 139 = .ok (.aload_n 0, 1) := dk_42 (dk_by (by decide +kernel))
theorem dL_law_140 : decode cL_law 140 = .ok (.iload_n 3, 1) := dk_29 (dk_by (by decide +kernel))
theorem dL_law_141 : decode cL_law 141 = .ok (.iconst 2, 1) := dk_5 (dk_by (by decide +kernel))
theorem dL_law_142 : decode cL_law 142 = .ok (.iadd, 1) := dk_96 (dk_by (by decide +kernel))
theorem dL_law_143 : decode cL_law 143 = .ok (.iaload, 1) := dk_46 (dk_by (by decide +kernel))
theorem dL_law_144 : decode cL_law 144 = .ok (.invokevirtual 18, 3) := dk_182 0 18 (dk_by (by decide +kernel))
theorem dL_law_147 : decode cL_law 147 = .ok (.aload_n 2, 1) := dk_44 (dk_by (by decide +kernel))
theorem dL_law_148 : decode cL_law 148 = .ok (.aload_n 0, 1) := dk_42 (dk_by (by decide +kernel))
theorem dL_law_149 : decode cL_law 149 = .ok (.iload_n 3, 1) := dk_29 (dk_by (by decide +kernel))
theorem dL_law_150 : decode cL_law 150 = .ok (.iconst 1, 1) := dk_4 (dk_by (by decide +kernel))
theorem dL_law_151 : decode cL_law 151 = .ok (.iadd, 1) := dk_96 (dk_by (by decide +kernel))
theorem dL_law_152 : decode cL_law 152 = .ok (.iaload, 1) := dk_46 (dk_by (by decide +kernel))
theorem dL_law_153 : decode cL_law 153 = .ok (.aload_n 0, 1) := dk_42 (dk_by (by decide +kernel))
theorem dL_law_154 : decode cL_law 154 = .ok (.iload_n 3, 1) := dk_29 (dk_by (by decide +kernel))
theorem dL_law_155 : decode cL_law 155 = .ok (.iconst 2, 1) := dk_5 (dk_by (by decide +kernel))
theorem dL_law_156 : decode cL_law 156 = .ok (.iadd, 1) := dk_96 (dk_by (by decide +kernel))
theorem dL_law_157 : decode cL_law 157 = .ok (.iaload, 1) := dk_46 (dk_by (by decide +kernel))
theorem dL_law_158 : decode cL_law 158 = .ok (.invokevirtual 22, 3) := dk_182 0 22 (dk_by (by decide +kernel))
theorem dL_law_161 : decode cL_law 161 = .ok (.goto 79, 3) := dk_167 0 79 (dk_by (by decide +kernel))
theorem dL_law_164 : decode cL_law 164 = .ok (.aload_n 1, 1) := dk_43 (dk_by (by decide +kernel))
theorem dL_law_165 : decode cL_law 165 = .ok (.aload_n 0, 1) := dk_42 (dk_by (by decide +kernel))
theorem dL_law_166 : decode cL_law 166 = .ok (.iload_n 3, 1) := dk_29 (dk_by (by decide +kernel))
theorem dL_law_167 : decode cL_law 167 = .ok (.iconst 1, 1) := dk_4 (dk_by (by decide +kernel))
theorem dL_law_168 : decode cL_law 168 = .ok (.iadd, 1) := dk_96 (dk_by (by decide +kernel))
theorem dL_law_169 : decode cL_law 169 = .ok (.iaload, 1) := dk_46 (dk_by (by decide +kernel))
theorem dL_law_170 : decode cL_law 170 = .ok (.invokevirtual 23, 3) := dk_182 0 23 (dk_by (by decide +kernel))
theorem dL_law_173 : decode cL_law 173 = .ok (.aload_n 2, 1) := dk_44 (dk_by (by decide +kernel))
theorem dL_law_174 : decode cL_law 174 = .ok (.aload_n 0, 1) := dk_42 (dk_by (by decide +kernel))
theorem dL_law_175 : decode cL_law 175 = .ok (.iload_n 3, 1) := dk_29 (dk_by (by decide +kernel))
theorem dL_law_176 : decode cL_law 176 = .ok (.iconst 1, 1) := dk_4 (dk_by (by decide +kernel))
theorem dL_law_177 : decode cL_law 177 = .ok (.iadd, 1) := dk_96 (dk_by (by decide +kernel))
theorem dL_law_178 : decode cL_law 178 = .ok (.iaload, 1) := dk_46 (dk_by (by decide +kernel))
theorem dL_law_179 : decode cL_law 179 = .ok (.invokevirtual 27, 3) := dk_182 0 27 (dk_by (by decide +kernel))
theorem dL_law_182 : decode cL_law 182 = .ok (.goto 58, 3) := dk_167 0 58 (dk_by (by decide +kernel))
theorem dL_law_185 : decode cL_law 185 = .ok (.aload_n 1, 1) := dk_43 (dk_by (by decide +kernel))
theorem dL_law_186 : decode cL_law 186 = .ok (.aload_n 0, 1) := dk_42 (dk_by (by decide +kernel))
theorem dL_law_187 : decode cL_law 187 = .ok (.iload_n 3, 1) := dk_29 (dk_by (by decide +kernel))
theorem dL_law_188 : decode cL_law 188 = .ok (.iconst 1, 1) := dk_4 (dk_by (by decide +kernel))
theorem dL_law_189 : decode cL_law 189 = .ok (.iadd, 1) := dk_96 (dk_by (by decide +kernel))
theorem dL_law_190 : decode cL_law 190 = .ok (.iaload, 1) := dk_46 (dk_by (by decide +kernel))
theorem dL_law_191 : decode cL_law 191 = .ok (.invokevirtual 28, 3) := dk_182 0 28 (dk_by (by decide +kernel))
theorem dL_law_194 : decode cL_law 194 = .ok (.aload_n 2, 1) := dk_44 (dk_by (by decide +kernel))
theorem dL_law_195 : decode cL_law 195 = .ok (.aload_n 0, 1) := dk_42 (dk_by (by decide +kernel))
theorem dL_law_196 : decode cL_law 196 = .ok (.iload_n 3, 1) := dk_29 (dk_by (by decide +kernel))
theorem dL_law_197 : decode cL_law 197 = .ok (.iconst 1, 1) := dk_4 (dk_by (by decide +kernel))
theorem dL_law_198 : decode cL_law 198 = .ok (.iadd, 1) := dk_96 (dk_by (by decide +kernel))
theorem dL_law_199 : decode cL_law 199 = .ok (.iaload, 1) := dk_46 (dk_by (by decide +kernel))
theorem dL_law_200 : decode cL_law 200 = .ok (.invokevirtual 31, 3) := dk_182 0 31 (dk_by (by decide +kernel))
theorem dL_law_203 : decode cL_law 203 = .ok (.goto 37, 3) := dk_167 0 37 (dk_by (by decide +kernel))
theorem dL_law_206 : decode cL_law 206 = .ok (.aload_n 1, 1) := dk_43 (dk_by (by decide +kernel))
theorem dL_law_207 : decode cL_law 207 = .ok (.invokevirtual 32, 3) := dk_182 0 32 (dk_by (by decide +kernel))
theorem dL_law_210 : decode cL_law 210 = .ok (.aload_n 2, 1) := dk_44 (dk_by (by decide +kernel))
theorem dL_law_211 : decode cL_law 211 = .ok (.invokevirtual 35, 3) := dk_182 0 35 (dk_by (by decide +kernel))
theorem dL_law_214 : decode cL_law 214 = .ok (.goto 26, 3) := dk_167 0 26 (dk_by (by decide +kernel))
theorem dL_law_217 : decode cL_law 217 = .ok (.aload_n 1, 1) := dk_43 (dk_by (by decide +kernel))
theorem dL_law_218 : decode cL_law 218 = .ok (.aload_n 0, 1) := dk_42 (dk_by (by decide +kernel))
theorem dL_law_219 : decode cL_law 219 = .ok (.iload_n 3, 1) := dk_29 (dk_by (by decide +kernel))
theorem dL_law_220 : decode cL_law 220 = .ok (.iconst 1, 1) := dk_4 (dk_by (by decide +kernel))
theorem dL_law_221 : decode cL_law 221 = .ok (.iadd, 1) := dk_96 (dk_by (by decide +kernel))
theorem dL_law_222 : decode cL_law 222 = .ok (.iaload, 1) := dk_46 (dk_by (by decide +kernel))
theorem dL_law_223 : decode cL_law 223 = .ok (.invokevirtual 36, 3) := dk_182 0 36 (dk_by (by decide +kernel))
theorem dL_law_226 : decode cL_law 226 = .ok (.aload_n 2, 1) := dk_44 (dk_by (by decide +kernel))
theorem dL_law_227 : decode cL_law 227 = .ok (.aload_n 0, 1) := dk_42 (dk_by (by decide +kernel))
theorem dL_law_228 : decode cL_law 228 = .ok (.iload_n 3, 1) := dk_29 (dk_by (by decide +kernel))
theorem dL_law_229 : decode cL_law 229 = .ok (.iconst 1, 1) := dk_4 (dk_by (by decide +kernel))
theorem dL_law_230 : decode cL_law 230 = .ok (.iadd, 1) := dk_96 (dk_by (by decide +kernel))
theorem dL_law_231 : decode cL_law 231 = .ok (.iaload, 1) := dk_46 (dk_by (by decide +kernel))
theorem dL_law_232 : decode cL_law 232 = .ok (.invokevirtual 40, 3) := dk_182 0 40 (dk_by (by decide +kernel))
theorem dL_law_235 : decode cL_law 235 = .ok (.if_icmp .eq 5, 3) := dk_159 0 5 (dk_by (by decide +kernel))
theorem dL_law_238 : decode cL_law 238 = .ok (.iconst 0, 1) := dk_3 (dk_by (by decide +kernel))
theorem dL_law_239 : decode cL_law 239 = .ok (.ireturn, 1) := dk_172 (dk_by (by decide +kernel))
theorem dL_law_240 : decode cL_law 240 = .ok (.iinc 3 6, 3) := dk_132 3 6 (dk_by (by decide +kernel))
theorem dL_law_243 : decode cL_law 243 = .ok (.goto (-225), 3) := dk_167 255 31 (dk_by (by decide +kernel))
theorem dL_law_246 : decode cL_law 246 = .ok (.iconst 1, 1) := dk_4 (dk_by (by decide +kernel))
theorem dL_law_247 : decode cL_law 247 = .ok (.ireturn, 1) := dk_172 (dk_by (by decide +kernel))
/-! names: words.BlockCipher -/
theorem q141 : (Jvm.Cond.interfaceMethod "BlockCipher" "BlockCipher" "init" "(ZLCipherParameters;)V") ∈ lw_tbl := lw_at lw_m1 125 rfl
theorem q142 : (Jvm.Cond.declares ({ cls := "BlockCipher", name := "init", desc := "(ZLCipherParameters;)V" } : Jvm.MethodName)) ∈ lw_tbl := lw_at lw_m1 126 rfl
theorem q254 : (Jvm.Cond.interfaceMethod "BlockCipher" "BlockCipher" "processBlock" "([BI[BI)I") ∈ lw_tbl := lw_at lw_m1 238 rfl
theorem q255 : (Jvm.Cond.declares ({ cls := "BlockCipher", name := "processBlock", desc := "([BI[BI)I" } : Jvm.MethodName)) ∈ lw_tbl := lw_at lw_m1 239 rfl
/-! names: words.TeaDeskLaw -/
theorem q16 : (Jvm.Cond.initialized "TeaDeskLaw") ∈ lw_all := lw_g (lw_at lw_m1 0 rfl) rfl
theorem q31 : (Jvm.Cond.classLink "TeaDeskLaw" (7 : Nat) "TeaDesk") ∈ lw_all := lw_g (lw_at lw_m1 15 rfl) rfl
theorem q33 : (Jvm.Cond.methodLink "TeaDeskLaw" (9 : Nat) ({ cls := "TeaDesk", name := "<init>", desc := "()V" } : Jvm.MethodName)) ∈ lw_all := lw_g (lw_at lw_m1 17 rfl) rfl
theorem q50 : (Jvm.Cond.methodLink "TeaDeskLaw" (13 : Nat) ({ cls := "TeaDesk", name := "key", desc := "(IIIII)V" } : Jvm.MethodName)) ∈ lw_all := lw_g (lw_at lw_m1 34 rfl) rfl
theorem q57 : (Jvm.Cond.methodLink "TeaDeskLaw" (18 : Nat) ({ cls := "TeaDesk", name := "block", desc := "(II)V" } : Jvm.MethodName)) ∈ lw_all := lw_g (lw_at lw_m1 41 rfl) rfl
theorem q61 : (Jvm.Cond.methodLink "TeaDeskLaw" (23 : Nat) ({ cls := "TeaDesk", name := "lock", desc := "(I)V" } : Jvm.MethodName)) ∈ lw_all := lw_g (lw_at lw_m1 45 rfl) rfl
theorem q352 : (Jvm.Cond.methodLink "TeaDeskLaw" (28 : Nat) ({ cls := "TeaDesk", name := "open", desc := "(I)V" } : Jvm.MethodName)) ∈ lw_all := lw_g (lw_at lw_m2 96 rfl) rfl
theorem q356 : (Jvm.Cond.methodLink "TeaDeskLaw" (32 : Nat) ({ cls := "TeaDesk", name := "again", desc := "()V" } : Jvm.MethodName)) ∈ lw_all := lw_g (lw_at lw_m2 100 rfl) rfl
theorem q360 : (Jvm.Cond.methodLink "TeaDeskLaw" (36 : Nat) ({ cls := "TeaDesk", name := "out", desc := "(I)I" } : Jvm.MethodName)) ∈ lw_all := lw_g (lw_at lw_m2 104 rfl) rfl
theorem q364 : (Jvm.Cond.classLink "TeaDeskLaw" (10 : Nat) "TeaDeskModel") ∈ lw_all := lw_g (lw_at lw_m2 108 rfl) rfl
theorem q366 : (Jvm.Cond.methodLink "TeaDeskLaw" (12 : Nat) ({ cls := "TeaDeskModel", name := "<init>", desc := "()V" } : Jvm.MethodName)) ∈ lw_all := lw_g (lw_at lw_m2 110 rfl) rfl
theorem q386 : (Jvm.Cond.methodLink "TeaDeskLaw" (17 : Nat) ({ cls := "TeaDeskModel", name := "key", desc := "(IIIII)V" } : Jvm.MethodName)) ∈ lw_all := lw_g (lw_at lw_m2 130 rfl) rfl
theorem q390 : (Jvm.Cond.methodLink "TeaDeskLaw" (22 : Nat) ({ cls := "TeaDeskModel", name := "block", desc := "(II)V" } : Jvm.MethodName)) ∈ lw_all := lw_g (lw_at lw_m2 134 rfl) rfl
theorem q394 : (Jvm.Cond.methodLink "TeaDeskLaw" (27 : Nat) ({ cls := "TeaDeskModel", name := "lock", desc := "(I)V" } : Jvm.MethodName)) ∈ lw_all := lw_g (lw_at lw_m2 138 rfl) rfl
theorem q411 : (Jvm.Cond.methodLink "TeaDeskLaw" (31 : Nat) ({ cls := "TeaDeskModel", name := "open", desc := "(I)V" } : Jvm.MethodName)) ∈ lw_all := lw_g (lw_at lw_m2 155 rfl) rfl
theorem q420 : (Jvm.Cond.methodLink "TeaDeskLaw" (35 : Nat) ({ cls := "TeaDeskModel", name := "again", desc := "()V" } : Jvm.MethodName)) ∈ lw_all := lw_g (lw_at lw_m2 164 rfl) rfl
theorem q424 : (Jvm.Cond.methodLink "TeaDeskLaw" (40 : Nat) ({ cls := "TeaDeskModel", name := "out", desc := "(I)I" } : Jvm.MethodName)) ∈ lw_all := lw_g (lw_at lw_m2 168 rfl) rfl
/-! names: words.java_lang_System -/
theorem q22 : (Jvm.Cond.initialized "java/lang/System") ∈ lw_all := lw_g (lw_at lw_m1 6 rfl) rfl
theorem q137 : (Jvm.Cond.static ({ cls := "java/lang/System", name := "arraycopy", desc := "(Ljava/lang/Object;ILjava/lang/Object;II)V" } : Jvm.MethodName)) ∈ lw_all := lw_g (lw_at lw_m1 121 rfl) rfl
theorem q138 : (Jvm.Cond.native ({ cls := "java/lang/System", name := "arraycopy", desc := "(Ljava/lang/Object;ILjava/lang/Object;II)V" } : Jvm.MethodName)) ∈ lw_all := lw_g (lw_at lw_m1 122 rfl) rfl
/-! names: words.rest -/
theorem q49 : (Jvm.Cond.arrayClass Jvm.ClassFile.FieldType.byte) ∈ lw_all := lw_g (lw_at lw_m1 33 rfl) rfl
theorem q119 : (Jvm.Cond.arrayClass Jvm.ClassFile.FieldType.int) ∈ lw_all := lw_g (lw_at lw_m1 103 rfl) rfl
end
section
/-! THE PLAIN LAW: no program in sight. Bits of an int (starting text: the first family of laws/BITS), the word of four bytes, TEA and XTEA. -/
set_option maxRecDepth 100000
def bt (x : Int32) (i : Nat) : Bool := x.toBitVec.getLsbD i
theorem b_ext {x y : Int32} (h : ∀ i, i < 32 → bt x i = bt y i) : x = y := Int32.toBitVec_inj.mp (BitVec.eq_of_getLsbD_eq (fun i hi => h i hi))
theorem b_or (x y : Int32) (i : Nat) : bt (x ||| y) i = (bt x i || bt y i) := by unfold bt; rw [Int32.toBitVec_or, BitVec.getLsbD_or]
theorem b_and (x y : Int32) (i : Nat) : bt (x &&& y) i = (bt x i && bt y i) := by unfold bt; rw [Int32.toBitVec_and, BitVec.getLsbD_and]
theorem b_big {x : Int32} {i : Nat} (h : 32 ≤ i) : bt x i = false := BitVec.getLsbD_of_ge _ _ h
theorem b_255 (i : Nat) : bt 255 i = decide (i < 8) := by
  rcases Nat.lt_or_ge i 32 with h | h
  · exact (by decide +kernel : ∀ i, i < 32 → bt 255 i = decide (i < 8)) i h
  · rw [b_big h, decide_eq_false (by omega)]
theorem s_l : ∀ n, n < 32 → ((nI n &&& 31).toBitVec.smod 32).toNat = n := by decide +kernel
theorem s_u : ∀ n, n < 32 → (((nI n).toUInt32 &&& Int32.toUInt32 31).toBitVec % 32).toNat = n := by decide +kernel
theorem b_shl (n : Nat) (hn : n < 32) (x : Int32) {i : Nat} (hi : i < 32) : bt (x <<< (nI n &&& 31)) i = (decide (n ≤ i) && bt x (i - n)) := by
  unfold bt
  rw [Int32.toBitVec_shiftLeft]
  show (x.toBitVec <<< ((nI n &&& 31).toBitVec.smod 32).toNat).getLsbD i = _
  rw [s_l n hn, BitVec.getLsbD_shiftLeft]
  rcases Nat.lt_or_ge i n with h | h
  · simp [h, Nat.not_le.mpr h]
  · simp [hi, h, Nat.not_lt.mpr h]
theorem b_ushr (n : Nat) (hn : n < 32) (x : Int32) (i : Nat) : bt ((x.toUInt32 >>> ((nI n).toUInt32 &&& Int32.toUInt32 31)).toInt32) i = bt x (n + i) := by
  show (x.toUInt32 >>> ((nI n).toUInt32 &&& Int32.toUInt32 31)).toBitVec.getLsbD i = x.toUInt32.toBitVec.getLsbD (n + i)
  rw [UInt32.toBitVec_shiftRight]
  show (x.toUInt32.toBitVec >>> (((nI n).toUInt32 &&& Int32.toUInt32 31).toBitVec % 32).toNat).getLsbD i = _
  rw [s_u n hn, BitVec.getLsbD_ushiftRight]
theorem b_sshr (n : Nat) (hn : n < 32) (x : Int32) {i : Nat} (hi : i < 32) : bt (x >>> (nI n &&& 31)) i = if n + i < 32 then bt x (n + i) else bt x 31 := by
  unfold bt
  rw [Int32.toBitVec_shiftRight]
  show (x.toBitVec.sshiftRight ((nI n &&& 31).toBitVec.smod 32).toNat).getLsbD i = _
  rw [s_l n hn, BitVec.getLsbD_sshiftRight, BitVec.msb_eq_getLsbD_last]
  simp [hi]
theorem b_shl8 (x : Int32) {i : Nat} (hi : i < 32) : bt (x <<< ((8 : Int32) &&& 31)) i = (decide (8 ≤ i) && bt x (i - 8)) := b_shl 8 (by omega) x hi
theorem b_shl16 (x : Int32) {i : Nat} (hi : i < 32) : bt (x <<< ((16 : Int32) &&& 31)) i = (decide (16 ≤ i) && bt x (i - 16)) := b_shl 16 (by omega) x hi
theorem b_shl24 (x : Int32) {i : Nat} (hi : i < 32) : bt (x <<< ((24 : Int32) &&& 31)) i = (decide (24 ≤ i) && bt x (i - 24)) := b_shl 24 (by omega) x hi
/-- a byte's bits -/
theorem b_i2b (x : Int32) {i : Nat} (hi : i < 8) : bt x.toInt8.toInt32 i = bt x i := by
  unfold bt
  rw [show (x.toInt8.toInt32).toBitVec = (x.toBitVec.signExtend 8).signExtend 32 from rfl, BitVec.getLsbD_signExtend, if_pos hi, BitVec.getLsbD_signExtend, if_pos (by omega)]
  simp [hi, show i < 32 by omega]
theorem b_nar (x : Int32) {i : Nat} (hi : i < 8) : bt (vp_nar .byte x) i = bt x i := by
  rw [vp_nar_byte]
  exact b_i2b x hi
/-- the word of the four bytes from place i on, as bytesToInt reads it -/
def tq_w (f : Nat → Int32) (i : Nat) : Int32 := (((f i <<< ((24 : Int32) &&& 31)) ||| ((f (i + 1) &&& 255) <<< ((16 : Int32) &&& 31))) ||| ((f (i + 2) &&& 255) <<< ((8 : Int32) &&& 31))) ||| (f (i + 3) &&& 255)
theorem tq_wb (f : Nat → Int32) (i : Nat) {j : Nat} (hj : j < 32) : bt (tq_w f i) j = (((decide (24 ≤ j) && bt (f i) (j - 24)) || (decide (16 ≤ j) && (bt (f (i + 1)) (j - 16) && decide (j - 16 < 8)))) || (decide (8 ≤ j) && (bt (f (i + 2)) (j - 8) && decide (j - 8 < 8))) || (bt (f (i + 3)) j && decide (j < 8))) := by
  unfold tq_w
  rw [b_or, b_or, b_or, b_shl24 _ hj, b_shl16 _ hj, b_shl8 _ hj, b_and, b_and, b_and, b_255, b_255, b_255]
theorem tq_w0 (f : Nat → Int32) (i : Nat) {k : Nat} (hk : k < 8) : bt (tq_w f i) (24 + k) = bt (f i) k := by
  rw [tq_wb f i (by omega), decide_eq_true (show 24 ≤ 24 + k by omega), decide_eq_false (show ¬ 24 + k - 16 < 8 by omega), decide_eq_false (show ¬ 24 + k - 8 < 8 by omega), decide_eq_false (show ¬ 24 + k < 8 by omega), show 24 + k - 24 = k by omega]
  simp
theorem tq_w1 (f : Nat → Int32) (i : Nat) {k : Nat} (hk : k < 8) : bt (tq_w f i) (16 + k) = bt (f (i + 1)) k := by
  rw [tq_wb f i (by omega), decide_eq_false (show ¬ 24 ≤ 16 + k by omega), decide_eq_true (show 16 ≤ 16 + k by omega), decide_eq_true (show 16 + k - 16 < 8 by omega), decide_eq_false (show ¬ 16 + k - 8 < 8 by omega), decide_eq_false (show ¬ 16 + k < 8 by omega), show 16 + k - 16 = k by omega]
  simp
theorem tq_w2 (f : Nat → Int32) (i : Nat) {k : Nat} (hk : k < 8) : bt (tq_w f i) (8 + k) = bt (f (i + 2)) k := by
  rw [tq_wb f i (by omega), decide_eq_false (show ¬ 24 ≤ 8 + k by omega), decide_eq_false (show ¬ 16 ≤ 8 + k by omega), decide_eq_true (show 8 ≤ 8 + k by omega), decide_eq_true (show 8 + k - 8 < 8 by omega), decide_eq_false (show ¬ 8 + k < 8 by omega), show 8 + k - 8 = k by omega]
  simp
theorem tq_w3 (f : Nat → Int32) (i : Nat) {k : Nat} (hk : k < 8) : bt (tq_w f i) k = bt (f (i + 3)) k := by
  rw [tq_wb f i (by omega), decide_eq_false (show ¬ 24 ≤ k by omega), decide_eq_false (show ¬ 16 ≤ k by omega), decide_eq_false (show ¬ 8 ≤ k by omega), decide_eq_true (show k < 8 by omega)]
  simp
/-- four bytes that have a word's bits make that word -/
theorem tq_of {f : Nat → Int32} {i : Nat} {w : Int32} (h0 : ∀ k, k < 8 → bt (f i) k = bt w (24 + k)) (h1 : ∀ k, k < 8 → bt (f (i + 1)) k = bt w (16 + k)) (h2 : ∀ k, k < 8 → bt (f (i + 2)) k = bt w (8 + k)) (h3 : ∀ k, k < 8 → bt (f (i + 3)) k = bt w k) : tq_w f i = w := by
  apply b_ext
  intro j hj
  rcases Nat.lt_or_ge j 8 with a | a
  · rw [tq_w3 f i a, h3 j a]
  rcases Nat.lt_or_ge j 16 with b | b
  · obtain ⟨k, rfl⟩ : ∃ k, j = 8 + k := ⟨j - 8, by omega⟩
    rw [tq_w2 f i (by omega), h2 k (by omega)]
  rcases Nat.lt_or_ge j 24 with d | d
  · obtain ⟨k, rfl⟩ : ∃ k, j = 16 + k := ⟨j - 16, by omega⟩
    rw [tq_w1 f i (by omega), h1 k (by omega)]
  · obtain ⟨k, rfl⟩ : ∃ k, j = 24 + k := ⟨j - 24, by omega⟩
    rw [tq_w0 f i (by omega), h0 k (by omega)]
/-- the word hangs on its four bytes alone, and of these on their eight bits -/
theorem tq_cg {f g : Nat → Int32} {i j : Nat} (h : ∀ d, d < 4 → ∀ k, k < 8 → bt (f (i + d)) k = bt (g (j + d)) k) : tq_w f i = tq_w g j :=
  tq_of (fun k hk => by rw [tq_w0 g j hk]; exact h 0 (by omega) k hk) (fun k hk => by rw [tq_w1 g j hk]; exact h 1 (by omega) k hk) (fun k hk => by rw [tq_w2 g j hk]; exact h 2 (by omega) k hk) (fun k hk => by rw [tq_w3 g j hk]; exact h 3 (by omega) k hk)
theorem tq_eq {f g : Nat → Int32} {i : Nat} (h : ∀ j, i ≤ j → j < i + 4 → f j = g j) : tq_w f i = tq_w g i :=
  tq_cg (fun d hd k _ => by rw [h (i + d) (by omega) (by omega)])
theorem tq_up (f : Nat → Int32) (i : Nat) (x : Int32) : upd f i x i = x := if_pos rfl
theorem tq_un (f : Nat → Int32) {i j : Nat} (x : Int32) (h : j ≠ i) : upd f i x j = f j := if_neg h
/-- four bytes written one behind the other -/
theorem tq_put {f f1 f2 f3 f4 : Nat → Int32} {i : Nat} {w x0 x1 x2 x3 : Int32} (e1 : f1 = upd f i (vp_nar .byte x0)) (e2 : f2 = upd f1 (i + 1) (vp_nar .byte x1)) (e3 : f3 = upd f2 (i + 2) (vp_nar .byte x2)) (e4 : f4 = upd f3 (i + 3) (vp_nar .byte x3))
    (h0 : ∀ k, k < 8 → bt x0 k = bt w (24 + k)) (h1 : ∀ k, k < 8 → bt x1 k = bt w (16 + k)) (h2 : ∀ k, k < 8 → bt x2 k = bt w (8 + k)) (h3 : ∀ k, k < 8 → bt x3 k = bt w k) : tq_w f4 i = w ∧ ∀ j, j < i ∨ i + 4 ≤ j → f4 j = f j := by
  refine ⟨tq_of ?_ ?_ ?_ ?_, fun j hj => ?_⟩
  · intro k hk
    rw [e4, tq_un _ _ (by omega), e3, tq_un _ _ (by omega), e2, tq_un _ _ (by omega), e1, tq_up, b_nar _ hk, h0 k hk]
  · intro k hk
    rw [e4, tq_un _ _ (by omega), e3, tq_un _ _ (by omega), e2, tq_up, b_nar _ hk, h1 k hk]
  · intro k hk
    rw [e4, tq_un _ _ (by omega), e3, tq_up, b_nar _ hk, h2 k hk]
  · intro k hk
    rw [e4, tq_up, b_nar _ hk, h3 k hk]
  · rw [e4, tq_un _ _ (by omega), e3, tq_un _ _ (by omega), e2, tq_un _ _ (by omega), e1, tq_un _ _ (by omega)]
/-- unpackInt: by >>> -/
theorem tq_unpack {f f1 f2 f3 f4 : Nat → Int32} {i : Nat} {v : Int32} (e1 : f1 = upd f i (vp_nar .byte ((v.toUInt32 >>> ((24 : Int32).toUInt32 &&& Int32.toUInt32 31)).toInt32).toInt8.toInt32)) (e2 : f2 = upd f1 (i + 1) (vp_nar .byte ((v.toUInt32 >>> ((16 : Int32).toUInt32 &&& Int32.toUInt32 31)).toInt32).toInt8.toInt32)) (e3 : f3 = upd f2 (i + 2) (vp_nar .byte ((v.toUInt32 >>> ((8 : Int32).toUInt32 &&& Int32.toUInt32 31)).toInt32).toInt8.toInt32)) (e4 : f4 = upd f3 (i + 3) (vp_nar .byte v.toInt8.toInt32)) : tq_w f4 i = v ∧ ∀ j, j < i ∨ i + 4 ≤ j → f4 j = f j :=
  tq_put e1 e2 e3 e4 (fun k hk => by rw [b_i2b _ hk]; exact b_ushr 24 (by omega) v k) (fun k hk => by rw [b_i2b _ hk]; exact b_ushr 16 (by omega) v k) (fun k hk => by rw [b_i2b _ hk]; exact b_ushr 8 (by omega) v k) (fun k hk => b_i2b v hk)
/-- word: by >> -/
theorem tq_word {f f1 f2 f3 f4 : Nat → Int32} {i : Nat} {v : Int32} (e1 : f1 = upd f i (vp_nar .byte (v >>> ((24 : Int32) &&& 31)).toInt8.toInt32)) (e2 : f2 = upd f1 (i + 1) (vp_nar .byte (v >>> ((16 : Int32) &&& 31)).toInt8.toInt32)) (e3 : f3 = upd f2 (i + 2) (vp_nar .byte (v >>> ((8 : Int32) &&& 31)).toInt8.toInt32)) (e4 : f4 = upd f3 (i + 3) (vp_nar .byte v.toInt8.toInt32)) : tq_w f4 i = v ∧ ∀ j, j < i ∨ i + 4 ≤ j → f4 j = f j :=
  tq_put e1 e2 e3 e4 (fun k hk => by rw [b_i2b _ hk]; exact (b_sshr 24 (by omega) v (show k < 32 by omega)).trans (if_pos (by omega))) (fun k hk => by rw [b_i2b _ hk]; exact (b_sshr 16 (by omega) v (show k < 32 by omega)).trans (if_pos (by omega))) (fun k hk => by rw [b_i2b _ hk]; exact (b_sshr 8 (by omega) v (show k < 32 by omega)).trans (if_pos (by omega))) (fun k hk => b_i2b v hk)
/-- one byte of a word, as the reference's out reads it -/
theorem tq_out {f : Nat → Int32} {i d : Nat} {w : Int32} (hd : d < 4) (h : tq_w f i = w) : f (i + d) &&& 255 = (w >>> (nI (24 - 8 * d) &&& 31)) &&& 255 := by
  apply b_ext
  intro j hj
  rw [b_and, b_and, b_255, b_sshr (24 - 8 * d) (by omega) w hj]
  rcases Nat.lt_or_ge j 8 with a | a
  · rw [if_pos (by omega), ← h]
    have e : bt (f (i + d)) j = bt (tq_w f i) (24 - 8 * d + j) := by
      rcases (show d = 0 ∨ d = 1 ∨ d = 2 ∨ d = 3 by omega) with rfl | rfl | rfl | rfl
      · exact (tq_w0 f i a).symm
      · exact (tq_w1 f i a).symm
      · exact (tq_w2 f i a).symm
      · have e2 : 24 - 8 * 3 + j = j := by omega
        rw [e2]
        exact (tq_w3 f i a).symm
    rw [e]
  · rw [decide_eq_false (by omega), Bool.and_false, Bool.and_false]
/-- half a cycle of TEA, of XTEA -/
def tq_h (v s a b : Int32) : Int32 := (((v <<< ((4 : Int32) &&& 31)) + a) ^^^ (v + s)) ^^^ ((v.toUInt32 >>> ((5 : Int32).toUInt32 &&& Int32.toUInt32 31)).toInt32 + b)
def tq_x (v t : Int32) : Int32 := (((v <<< ((4 : Int32) &&& 31)) ^^^ (v.toUInt32 >>> ((5 : Int32).toUInt32 &&& Int32.toUInt32 31)).toInt32) + v) ^^^ t
/-- XTEA's words of the key beside the sum -/
def tq_i (s : Int32) : Nat := (s &&& 3).toNatClampNeg
def tq_j (s : Int32) : Nat := ((s.toUInt32 >>> ((11 : Int32).toUInt32 &&& Int32.toUInt32 31)).toInt32 &&& 3).toNatClampNeg
def tq_kE (K : Nat → Int32) (s : Int32) : Int32 := s + K (tq_i s)
def tq_kO (K : Nat → Int32) (s : Int32) : Int32 := s + K (tq_j s)
/-- n cycles from the sum s on -/
def tq_tE (a b c d : Int32) : Nat → Int32 → Int32 → Int32 → Int32 × Int32
  | 0, _, x, y => (x, y)
  | n + 1, s, x, y => tq_tE a b c d n (s + (-1640531527)) (x + tq_h y (s + (-1640531527)) a b) (y + tq_h (x + tq_h y (s + (-1640531527)) a b) (s + (-1640531527)) c d)
def tq_tD (a b c d : Int32) : Nat → Int32 → Int32 → Int32 → Int32 × Int32
  | 0, _, x, y => (x, y)
  | n + 1, s, x, y => tq_tD a b c d n (s - (-1640531527)) (x - tq_h (y - tq_h x s c d) s a b) (y - tq_h x s c d)
def tq_xE (K : Nat → Int32) : Nat → Int32 → Int32 → Int32 → Int32 × Int32
  | 0, _, x, y => (x, y)
  | n + 1, s, x, y => tq_xE K n (s + (-1640531527)) (x + tq_x y (tq_kE K s)) (y + tq_x (x + tq_x y (tq_kE K s)) (tq_kO K (s + (-1640531527))))
def tq_xD (K : Nat → Int32) : Nat → Int32 → Int32 → Int32 → Int32 × Int32
  | 0, _, x, y => (x, y)
  | n + 1, s, x, y => tq_xD K n (s - (-1640531527)) (x - tq_x (y - tq_x x (tq_kO K s)) (tq_kE K (s - (-1640531527)))) (y - tq_x x (tq_kO K s))
/-- the sum behind n cycles -/
def tq_s : Nat → Int32
  | 0 => 0
  | n + 1 => tq_s n + (-1640531527)
theorem tq_s32 : tq_s 32 = -957401312 := by decide +kernel
theorem tq_sp (n : Nat) : tq_s (n + 1) - (-1640531527) = tq_s n := by
  show tq_s n + (-1640531527) - (-1640531527) = tq_s n
  exact Int32.add_sub_cancel _ _
theorem tq_sm (s : Int32) : s - 1640531527 = s + (-1640531527) := Int32.sub_eq_add_neg s 1640531527
theorem tq_sa (s : Int32) : s + 1640531527 = s - (-1640531527) := by rw [Int32.sub_eq_add_neg, Int32.neg_neg]
theorem tq_3 (x : Int32) : vp_in (x &&& 3) 4 := pk_andIn x (m := 3) 2 (by decide) (by omega)
theorem tq_lt {x : Int32} {n : Nat} (h : vp_in x n) : x.toNatClampNeg < n := Nat.not_le.mp fun q => h (Or.inr q)
theorem tq_kE_cg {K K' : Nat → Int32} (h : ∀ j, j < 4 → K j = K' j) (s : Int32) : tq_kE K s = tq_kE K' s := by
  unfold tq_kE tq_i
  rw [h _ (tq_lt (tq_3 _))]
theorem tq_kO_cg {K K' : Nat → Int32} (h : ∀ j, j < 4 → K j = K' j) (s : Int32) : tq_kO K s = tq_kO K' s := by
  unfold tq_kO tq_j
  rw [h _ (tq_lt (tq_3 _))]
theorem tq_xE_cg {K K' : Nat → Int32} (h : ∀ j, j < 4 → K j = K' j) : ∀ (n : Nat) (s x y : Int32), tq_xE K n s x y = tq_xE K' n s x y
  | 0, _, _, _ => rfl
  | n + 1, s, x, y => by
    show tq_xE K n _ _ _ = tq_xE K' n _ _ _
    rw [tq_xE_cg h n, tq_kE_cg h, tq_kO_cg h]
theorem tq_xD_cg {K K' : Nat → Int32} (h : ∀ j, j < 4 → K j = K' j) : ∀ (n : Nat) (s x y : Int32), tq_xD K n s x y = tq_xD K' n s x y
  | 0, _, _, _ => rfl
  | n + 1, s, x, y => by
    show tq_xD K n _ _ _ = tq_xD K' n _ _ _
    rw [tq_xD_cg h n, tq_kE_cg h, tq_kO_cg h]
/-- what a desk's lock and open answer: by the kind's bit 4, the key's words K, the block's words -/
def tq_E (kd : Int32) (K : Nat → Int32) (x y : Int32) : Int32 × Int32 := if kd &&& 4 = 0 then tq_tE (K 0) (K 1) (K 2) (K 3) 32 0 x y else tq_xE K 32 0 x y
def tq_D (kd : Int32) (K : Nat → Int32) (x y : Int32) : Int32 × Int32 := if kd &&& 4 = 0 then tq_tD (K 0) (K 1) (K 2) (K 3) 32 (-957401312) x y else tq_xD K 32 (-957401312) x y
def tq_C (lk kd : Int32) (K : Nat → Int32) (x y : Int32) : Int32 × Int32 := if lk = 0 then tq_D kd K x y else tq_E kd K x y
theorem tq_C_cg {K K' : Nat → Int32} (h : ∀ j, j < 4 → K j = K' j) (lk kd x y : Int32) : tq_C lk kd K x y = tq_C lk kd K' x y := by
  unfold tq_C tq_D tq_E
  rw [tq_xE_cg h, tq_xD_cg h, h 0 (by omega), h 1 (by omega), h 2 (by omega), h 3 (by omega)]
theorem tq_C1 (kd : Int32) (K : Nat → Int32) (x y : Int32) : tq_C 1 kd K x y = tq_E kd K x y := if_neg (by decide)
theorem tq_C0 (kd : Int32) (K : Nat → Int32) (x y : Int32) : tq_C 0 kd K x y = tq_D kd K x y := if_pos rfl
end
section
/-! the worlds' classes, and rows with places that are natural numbers -/
set_option maxRecDepth 100000
abbrev vwCl : List vw_C := [(RX0, TX0, 3), (RX1, TX1, 5), (RX2, TX2, 6), (RX3, TX3, 5), (RX4, TX4, 1)]
theorem tk_inc (i : Nat) : nI i + Int32.ofInt 1 = nI (i + 1) := nI_1 i
theorem tk_inc4 (i : Nat) : nI i + Int32.ofInt 4 = nI (i + 4) := nI_add i 4
theorem tk_inc6 (i : Nat) : nI i + Int32.ofInt 6 = nI (i + 6) := nI_add i 6
theorem tk_dec (i : Nat) : nI i + Int32.ofInt (-1) = nI i - 1 := (Int32.sub_eq_add_neg (nI i) 1).symm
theorem tk_nil {free : Addr → Prop} : ∀ q ∈ ([] : List Loc), free q.base := fun q h => by cases h
section TK
variable {p : Program} {l : Launch} {e : Env} {R : Room} {s : State} {m : MethodId} {args : Array Value} {below : List Frame} {meth : Method} {c : Code} {H : Heap} {locs : List Loc} {cells slots : Nat} {Q : State → Prop}
variable {cc : ByteArray} {pc : Nat} {ls : Array Slot} {rest : List Value} {D : va_G} {cl : List vw_C} {A : Nat → Prop} {a : Nat} {tys : List (ClassId × FieldType)} {ws : va_W} {H0 : Heap}
/-- the number on top by another name -/
theorem tk_as {x : Int32} (y : Int32) (h : x = y) (k : W p l e R s m args below meth c H locs cells slots Q (F0 m pc ls (.int y :: rest))) : W p l e R s m args below meth c H locs cells slots Q (F0 m pc ls (.int x :: rest)) := by
  subst h
  exact k
theorem tk_bld (hexec : p.tables.exec = Jvm.exec) (hb : c.code = cc) (hK : va_K D cl tys s) (hP : va_P D cl ws H) (q0 t0 : Nat) {cA : ClassId} {n : Nat} {f : Nat → Int32} (ha : ws[q0]? = some (a, .inl (cA, n, .inl f))) (ht : tys[t0]? = some (cA, .byte)) (i : Nat) (hi : i < n) (hn : n < 2 ^ 31) (hdg : decode cc pc = .ok (.baload, 1))
    (kk : W p l e R s m args below meth c H locs cells slots Q (F0 m (pc + 1) ls (.int (f i) :: rest))) : W p l e R s m args below meth c H locs cells slots Q (F0 m pc ls (.int (nI i) :: .ref a :: rest)) := by
  refine va_bald hexec hb hK hP q0 t0 ha ht (vp_in_nI hi hn) hdg ?_
  rw [nI_clamp (Nat.lt_trans hi hn)]
  exact kk
theorem tk_ild (hexec : p.tables.exec = Jvm.exec) (hb : c.code = cc) (hK : va_K D cl tys s) (hP : va_P D cl ws H) (q0 t0 : Nat) {cA : ClassId} {n : Nat} {f : Nat → Int32} (ha : ws[q0]? = some (a, .inl (cA, n, .inl f))) (ht : tys[t0]? = some (cA, .int)) (i : Nat) (hi : i < n) (hn : n < 2 ^ 31) (hdg : decode cc pc = .ok (.iaload, 1))
    (kk : W p l e R s m args below meth c H locs cells slots Q (F0 m (pc + 1) ls (.int (f i) :: rest))) : W p l e R s m args below meth c H locs cells slots Q (F0 m pc ls (.int (nI i) :: .ref a :: rest)) := by
  refine va_iald hexec hb hK hP q0 t0 ha ht (vp_in_nI hi hn) hdg ?_
  rw [nI_clamp (Nat.lt_trans hi hn)]
  exact kk
theorem tk_bst (hexec : p.tables.exec = Jvm.exec) (hb : c.code = cc) (hK : va_K D cl tys s) (hP : va_P D cl ws H) (hD : va_D A ws) (hS : va_S A H0 H locs) (q0 t0 : Nat) {cA : ClassId} {n : Nat} {f : Nat → Int32} (ha : ws[q0]? = some (a, .inl (cA, n, .inl f))) (ht : tys[t0]? = some (cA, .byte)) (i : Nat) {x : Int32} (hi : i < n) (hn : n < 2 ^ 31) (hdg : decode cc pc = .ok (.bastore, 1))
    (kk : ∀ (H1 : Heap) (locs1 : List Loc), va_P D cl (ws.set q0 (a, .inl (cA, n, .inl (upd f i (vp_nar .byte x))))) H1 → va_D A (ws.set q0 (a, .inl (cA, n, .inl (upd f i (vp_nar .byte x))))) → va_S A H0 H1 locs1 → W p l e R s m args below meth c H1 locs1 cells slots Q (F0 m (pc + 1) ls rest)) : W p l e R s m args below meth c H locs cells slots Q (F0 m pc ls (.int x :: .int (nI i) :: .ref a :: rest)) := by
  refine va_bast hexec hb hK hP hD hS q0 t0 ha ht (vp_in_nI hi hn) hdg ?_
  rw [nI_clamp (Nat.lt_trans hi hn)]
  exact kk
theorem tk_ist (hexec : p.tables.exec = Jvm.exec) (hb : c.code = cc) (hK : va_K D cl tys s) (hP : va_P D cl ws H) (hD : va_D A ws) (hS : va_S A H0 H locs) (q0 t0 : Nat) {cA : ClassId} {n : Nat} {f : Nat → Int32} (ha : ws[q0]? = some (a, .inl (cA, n, .inl f))) (ht : tys[t0]? = some (cA, .int)) (i : Nat) {x : Int32} (hi : i < n) (hn : n < 2 ^ 31) (hdg : decode cc pc = .ok (.iastore, 1))
    (kk : ∀ (H1 : Heap) (locs1 : List Loc), va_P D cl (ws.set q0 (a, .inl (cA, n, .inl (upd f i x)))) H1 → va_D A (ws.set q0 (a, .inl (cA, n, .inl (upd f i x)))) → va_S A H0 H1 locs1 → W p l e R s m args below meth c H1 locs1 cells slots Q (F0 m (pc + 1) ls rest)) : W p l e R s m args below meth c H locs cells slots Q (F0 m pc ls (.int x :: .int (nI i) :: .ref a :: rest)) := by
  refine va_iast hexec hb hK hP hD hS q0 t0 ha ht (vp_in_nI hi hn) hdg ?_
  rw [nI_clamp (Nat.lt_trans hi hn)]
  exact kk
theorem tk_sld (hexec : p.tables.exec = Jvm.exec) (hb : c.code = cc) {b L : Nat} {xs : Nat → Int32} (hX : va_X b L xs s H0) (hbl : b < H0.size) (hbA : ¬ A b) (hS : va_S A H0 H locs) (i : Nat) (hi : i < L) (hn : L < 2 ^ 31) (hdg : decode cc pc = .ok (.iaload, 1))
    (kk : W p l e R s m args below meth c H locs cells slots Q (F0 m (pc + 1) ls (.int (xs i) :: rest))) : W p l e R s m args below meth c H locs cells slots Q (F0 m pc ls (.int (nI i) :: .ref b :: rest)) := by
  refine va_sld hexec hb hX hbl hbA hS (vp_in_nI hi hn) hdg ?_
  rw [nI_clamp (Nat.lt_trans hi hn)]
  exact kk
end TK
end
section
/-! LEAVES: bytesToInt, unpackInt of both engines, word, size -/
abbrev BArr (dC : Nat → ClassId) (dI : Nat → Nat → Nat) (a : Nat) (cB : ClassId) (n : Nat) (A : Nat → Prop) (u : Nat → Int32) (t : State) : Prop := va_P (dC, dI) vwCl [(a, .inl (cB, n, .inl u))] t.heap ∧ va_K (dC, dI) vwCl [(cB, .byte)] t ∧ va_D A [(a, .inl (cB, n, .inl u))]
set_option maxHeartbeats 4000000 in
set_option maxRecDepth 100000 in
/-- bytesToInt: the word at place i -/
theorem metX2_bytesToInt (l : Launch) (dC : Nat → ClassId) (dI : Nat → Nat → Nat) (h0 a : Nat) (cB : ClassId) (n : Nat) (f : Nat → Int32) (i : Nat) (hi : i + 4 ≤ n) (hn : n < 2 ^ 31) : Met l yX2_bytesToInt (ws_ yX2_bytesToInt cX2_bytesToInt 3 (some .int)) ({ frames := 0, cells := 0, slots := 0, locals := 0 }) (va_Pc [.ref h0, .ref a, .int (nI i)] (fun U => va_P (dC, dI) vwCl [(a, .inl (cB, n, .inl f))] U.heap ∧ va_K (dC, dI) vwCl [(cB, .byte)] U)) (vp_Si (fun r => r = tq_w f i)) 0 0 (fun _ => False) := by
  refine Met.ofW (cc := cX2_bytesToInt) (maxL := 3) (ret := (some .int)) (by decide) rfl ?_
  intro p e s m args below meth c s₁ B hml hv
  obtain ⟨rfl, hP, hK⟩ := hv
  have hx := B.exec
  have hb := B.bytes
  have hr := B.returns
  have hts := atoms_spec (ws := ws_ yX2_bytesToInt cX2_bytesToInt 3 (some .int)) B.pre
  have hts : ∀ w ∈ lw_all, w.before _ s = true := fun w h => hts w (List.mem_cons_of_mem _ h)
  have hown : s.vm.findClass RX2 = some m.cls := findClass_of_methodNamed B.named
  have hlocks := B.notSynchronized
  have hl := lv_entry ([.ref h0, .ref a, .int (nI i)]) (n := 3) (Nat.le_of_ble_eq_true rfl)
  rw [lg_entry_eq]
  generalize (lg_sl ([.ref h0, .ref a, .int (nI i)]) ++ List.replicate (3 - (lg_sl ([.ref h0, .ref a, .int (nI i)])).length) Slot.unset).toArray = ls at hl ⊢
  have hl : lv_has ls 3 [(0, .ref h0), (1, .ref a), (2, .int (nI i))] := hl
  refine lv_aload_n hx hb dX2_bytesToInt_0 rfl (lv_at hl 1 rfl) ?_
  refine lv_iload_n hx hb dX2_bytesToInt_1 rfl (lv_at hl 2 rfl) ?_
  refine lv_iinc (v := nI (i + 1)) (lv' := [(2, .int (nI (i + 1))), (0, .ref h0), (1, .ref a)]) hx hb dX2_bytesToInt_2 hl (k := 2) rfl (tk_inc (i)) (by decide) rfl (fun ls hl => ?_)
  refine tk_bld hx hb hK hP 0 0 rfl rfl (i) (by omega) (hn) dX2_bytesToInt_5 ?_
  refine lv_bipush (v := 24) hx hb dX2_bytesToInt_6 (by decide) ?_
  refine lv_ishl hx hb dX2_bytesToInt_8 ?_
  refine lv_aload_n hx hb dX2_bytesToInt_9 rfl (lv_at hl 2 rfl) ?_
  refine lv_iload_n hx hb dX2_bytesToInt_10 rfl (lv_at hl 0 rfl) ?_
  refine lv_iinc (v := nI (i + 2)) (lv' := [(2, .int (nI (i + 2))), (0, .ref h0), (1, .ref a)]) hx hb dX2_bytesToInt_11 hl (k := 0) rfl (tk_inc (i + 1)) (by decide) rfl (fun ls hl => ?_)
  refine tk_bld hx hb hK hP 0 0 rfl rfl (i + 1) (by omega) (hn) dX2_bytesToInt_14 ?_
  refine lv_sipush (v := 255) hx hb dX2_bytesToInt_15 (by decide) ?_
  refine lv_iand hx hb dX2_bytesToInt_18 ?_
  refine lv_bipush (v := 16) hx hb dX2_bytesToInt_19 (by decide) ?_
  refine lv_ishl hx hb dX2_bytesToInt_21 ?_
  refine lv_ior hx hb dX2_bytesToInt_22 ?_
  refine lv_aload_n hx hb dX2_bytesToInt_23 rfl (lv_at hl 2 rfl) ?_
  refine lv_iload_n hx hb dX2_bytesToInt_24 rfl (lv_at hl 0 rfl) ?_
  refine lv_iinc (v := nI (i + 3)) (lv' := [(2, .int (nI (i + 3))), (0, .ref h0), (1, .ref a)]) hx hb dX2_bytesToInt_25 hl (k := 0) rfl (tk_inc (i + 2)) (by decide) rfl (fun ls hl => ?_)
  refine tk_bld hx hb hK hP 0 0 rfl rfl (i + 2) (by omega) (hn) dX2_bytesToInt_28 ?_
  refine lv_sipush (v := 255) hx hb dX2_bytesToInt_29 (by decide) ?_
  refine lv_iand hx hb dX2_bytesToInt_32 ?_
  refine lv_bipush (v := 8) hx hb dX2_bytesToInt_33 (by decide) ?_
  refine lv_ishl hx hb dX2_bytesToInt_35 ?_
  refine lv_ior hx hb dX2_bytesToInt_36 ?_
  refine lv_aload_n hx hb dX2_bytesToInt_37 rfl (lv_at hl 2 rfl) ?_
  refine lv_iload_n hx hb dX2_bytesToInt_38 rfl (lv_at hl 0 rfl) ?_
  refine tk_bld hx hb hK hP 0 0 rfl rfl (i + 3) (by omega) (hn) dX2_bytesToInt_39 ?_
  refine lv_sipush (v := 255) hx hb dX2_bytesToInt_40 (by decide) ?_
  refine lv_iand hx hb dX2_bytesToInt_43 ?_
  refine lv_ior hx hb dX2_bytesToInt_44 ?_
  exact W.iret hx hb hr (fun t ht hW => ⟨_, rfl, rfl, ht⟩) tk_nil dX2_bytesToInt_45
set_option maxHeartbeats 4000000 in
set_option maxRecDepth 100000 in
/-- bytesToInt: the word at place i -/
theorem metX3_bytesToInt (l : Launch) (dC : Nat → ClassId) (dI : Nat → Nat → Nat) (h0 a : Nat) (cB : ClassId) (n : Nat) (f : Nat → Int32) (i : Nat) (hi : i + 4 ≤ n) (hn : n < 2 ^ 31) : Met l yX3_bytesToInt (ws_ yX3_bytesToInt cX3_bytesToInt 3 (some .int)) ({ frames := 0, cells := 0, slots := 0, locals := 0 }) (va_Pc [.ref h0, .ref a, .int (nI i)] (fun U => va_P (dC, dI) vwCl [(a, .inl (cB, n, .inl f))] U.heap ∧ va_K (dC, dI) vwCl [(cB, .byte)] U)) (vp_Si (fun r => r = tq_w f i)) 0 0 (fun _ => False) := by
  refine Met.ofW (cc := cX3_bytesToInt) (maxL := 3) (ret := (some .int)) (by decide) rfl ?_
  intro p e s m args below meth c s₁ B hml hv
  obtain ⟨rfl, hP, hK⟩ := hv
  have hx := B.exec
  have hb := B.bytes
  have hr := B.returns
  have hts := atoms_spec (ws := ws_ yX3_bytesToInt cX3_bytesToInt 3 (some .int)) B.pre
  have hts : ∀ w ∈ lw_all, w.before _ s = true := fun w h => hts w (List.mem_cons_of_mem _ h)
  have hown : s.vm.findClass RX3 = some m.cls := findClass_of_methodNamed B.named
  have hlocks := B.notSynchronized
  have hl := lv_entry ([.ref h0, .ref a, .int (nI i)]) (n := 3) (Nat.le_of_ble_eq_true rfl)
  rw [lg_entry_eq]
  generalize (lg_sl ([.ref h0, .ref a, .int (nI i)]) ++ List.replicate (3 - (lg_sl ([.ref h0, .ref a, .int (nI i)])).length) Slot.unset).toArray = ls at hl ⊢
  have hl : lv_has ls 3 [(0, .ref h0), (1, .ref a), (2, .int (nI i))] := hl
  refine lv_aload_n hx hb dX3_bytesToInt_0 rfl (lv_at hl 1 rfl) ?_
  refine lv_iload_n hx hb dX3_bytesToInt_1 rfl (lv_at hl 2 rfl) ?_
  refine lv_iinc (v := nI (i + 1)) (lv' := [(2, .int (nI (i + 1))), (0, .ref h0), (1, .ref a)]) hx hb dX3_bytesToInt_2 hl (k := 2) rfl (tk_inc (i)) (by decide) rfl (fun ls hl => ?_)
  refine tk_bld hx hb hK hP 0 0 rfl rfl (i) (by omega) (hn) dX3_bytesToInt_5 ?_
  refine lv_bipush (v := 24) hx hb dX3_bytesToInt_6 (by decide) ?_
  refine lv_ishl hx hb dX3_bytesToInt_8 ?_
  refine lv_aload_n hx hb dX3_bytesToInt_9 rfl (lv_at hl 2 rfl) ?_
  refine lv_iload_n hx hb dX3_bytesToInt_10 rfl (lv_at hl 0 rfl) ?_
  refine lv_iinc (v := nI (i + 2)) (lv' := [(2, .int (nI (i + 2))), (0, .ref h0), (1, .ref a)]) hx hb dX3_bytesToInt_11 hl (k := 0) rfl (tk_inc (i + 1)) (by decide) rfl (fun ls hl => ?_)
  refine tk_bld hx hb hK hP 0 0 rfl rfl (i + 1) (by omega) (hn) dX3_bytesToInt_14 ?_
  refine lv_sipush (v := 255) hx hb dX3_bytesToInt_15 (by decide) ?_
  refine lv_iand hx hb dX3_bytesToInt_18 ?_
  refine lv_bipush (v := 16) hx hb dX3_bytesToInt_19 (by decide) ?_
  refine lv_ishl hx hb dX3_bytesToInt_21 ?_
  refine lv_ior hx hb dX3_bytesToInt_22 ?_
  refine lv_aload_n hx hb dX3_bytesToInt_23 rfl (lv_at hl 2 rfl) ?_
  refine lv_iload_n hx hb dX3_bytesToInt_24 rfl (lv_at hl 0 rfl) ?_
  refine lv_iinc (v := nI (i + 3)) (lv' := [(2, .int (nI (i + 3))), (0, .ref h0), (1, .ref a)]) hx hb dX3_bytesToInt_25 hl (k := 0) rfl (tk_inc (i + 2)) (by decide) rfl (fun ls hl => ?_)
  refine tk_bld hx hb hK hP 0 0 rfl rfl (i + 2) (by omega) (hn) dX3_bytesToInt_28 ?_
  refine lv_sipush (v := 255) hx hb dX3_bytesToInt_29 (by decide) ?_
  refine lv_iand hx hb dX3_bytesToInt_32 ?_
  refine lv_bipush (v := 8) hx hb dX3_bytesToInt_33 (by decide) ?_
  refine lv_ishl hx hb dX3_bytesToInt_35 ?_
  refine lv_ior hx hb dX3_bytesToInt_36 ?_
  refine lv_aload_n hx hb dX3_bytesToInt_37 rfl (lv_at hl 2 rfl) ?_
  refine lv_iload_n hx hb dX3_bytesToInt_38 rfl (lv_at hl 0 rfl) ?_
  refine tk_bld hx hb hK hP 0 0 rfl rfl (i + 3) (by omega) (hn) dX3_bytesToInt_39 ?_
  refine lv_sipush (v := 255) hx hb dX3_bytesToInt_40 (by decide) ?_
  refine lv_iand hx hb dX3_bytesToInt_43 ?_
  refine lv_ior hx hb dX3_bytesToInt_44 ?_
  exact W.iret hx hb hr (fun t ht hW => ⟨_, rfl, rfl, ht⟩) tk_nil dX3_bytesToInt_45
set_option maxHeartbeats 4000000 in
set_option maxRecDepth 100000 in
/-- unpackInt: the word v goes to place i -/
theorem metX2_unpackInt (l : Launch) (dC : Nat → ClassId) (dI : Nat → Nat → Nat) (h0 a : Nat) (cB : ClassId) (n : Nat) (f : Nat → Int32) (v : Int32) (i : Nat) (hi : i + 4 ≤ n) (hn : n < 2 ^ 31) (sz : Nat) : Met l yX2_unpackInt (ws_ yX2_unpackInt cX2_unpackInt 4 none) ({ frames := 0, cells := 0, slots := 0, locals := 0 }) (va_Pc [.ref h0, .int v, .ref a, .int (nI i)] (fun U => U.heap.size = sz ∧ va_P (dC, dI) vwCl [(a, .inl (cB, n, .inl f))] U.heap ∧ va_K (dC, dI) vwCl [(cB, .byte)] U ∧ va_D (fun _ => True) [(a, .inl (cB, n, .inl f))])) (va_Qv (fun u : Nat → Int32 => tq_w u i = v ∧ ∀ j, j < i ∨ i + 4 ≤ j → u j = f j) (BArr dC dI a cB n (va_A [(a, .inl (cB, n, .inl f))] sz)) (va_A [(a, .inl (cB, n, .inl f))] sz)) 0 0 (va_A [(a, .inl (cB, n, .inl f))] sz) := by
  refine Met.ofW (cc := cX2_unpackInt) (maxL := 4) (ret := none) (by decide) rfl ?_
  intro p e s m args below meth c s₁ B hml hv
  obtain ⟨rfl, hsz, hP, hK, hD0⟩ := hv
  have hx := B.exec
  have hb := B.bytes
  have hr := B.returns
  have hts := atoms_spec (ws := ws_ yX2_unpackInt cX2_unpackInt 4 none) B.pre
  have hts : ∀ w ∈ lw_all, w.before _ s = true := fun w h => hts w (List.mem_cons_of_mem _ h)
  have hown : s.vm.findClass RX2 = some m.cls := findClass_of_methodNamed B.named
  have hlocks := B.notSynchronized
  subst hsz
  have hD := hD0.self (sz := s.heap.size)
  generalize hAe : va_A [(a, .inl (cB, n, .inl f))] s.heap.size = A at hD ⊢
  have hA : ∀ q : Nat, s.heap.size ≤ q → A q := fun q h => by rw [← hAe]; exact Or.inr h
  have hS : va_S A s.heap s.heap [] := va_S.rf
  have hl := lv_entry ([.ref h0, .int v, .ref a, .int (nI i)]) (n := 4) (Nat.le_of_ble_eq_true rfl)
  rw [lg_entry_eq]
  generalize (lg_sl ([.ref h0, .int v, .ref a, .int (nI i)]) ++ List.replicate (4 - (lg_sl ([.ref h0, .int v, .ref a, .int (nI i)])).length) Slot.unset).toArray = ls at hl ⊢
  have hl : lv_has ls 4 [(0, .ref h0), (1, .int v), (2, .ref a), (3, .int (nI i))] := hl
  have hP : va_P (dC, dI) vwCl [(a, .inl (cB, n, .inl f))] s.heap := hP
  refine lv_aload_n hx hb dX2_unpackInt_0 rfl (lv_at hl 2 rfl) ?_
  refine lv_iload_n hx hb dX2_unpackInt_1 rfl (lv_at hl 3 rfl) ?_
  refine lv_iinc (v := nI (i + 1)) (lv' := [(3, .int (nI (i + 1))), (0, .ref h0), (1, .int v), (2, .ref a)]) hx hb dX2_unpackInt_2 hl (k := 3) rfl (tk_inc (i)) (by decide) rfl (fun ls hl => ?_)
  refine lv_iload_n hx hb dX2_unpackInt_5 rfl (lv_at hl 2 rfl) ?_
  refine lv_bipush (v := 24) hx hb dX2_unpackInt_6 (by decide) ?_
  refine lv_iushr (v := (v.toUInt32 >>> ((24 : Int32).toUInt32 &&& Int32.toUInt32 31)).toInt32) hx hb dX2_unpackInt_8 rfl ?_
  refine lv_i2b (v := ((v.toUInt32 >>> ((24 : Int32).toUInt32 &&& Int32.toUInt32 31)).toInt32).toInt8.toInt32) hx hb dX2_unpackInt_9 rfl ?_
  refine tk_bst (x := ((v.toUInt32 >>> ((24 : Int32).toUInt32 &&& Int32.toUInt32 31)).toInt32).toInt8.toInt32) hx hb hK hP hD hS 0 0 rfl rfl (i) (by omega) (hn) dX2_unpackInt_10 (fun H locs hP hD hS => ?_)
  have hP : va_P (dC, dI) vwCl [(a, .inl (cB, n, .inl (upd f i (vp_nar .byte (((v.toUInt32 >>> ((24 : Int32).toUInt32 &&& Int32.toUInt32 31)).toInt32).toInt8.toInt32)))))] H := hP
  have hD : va_D A [(a, .inl (cB, n, .inl (upd f i (vp_nar .byte (((v.toUInt32 >>> ((24 : Int32).toUInt32 &&& Int32.toUInt32 31)).toInt32).toInt8.toInt32)))))] := hD
  obtain ⟨f1, ef1⟩ : ∃ g_9 : Nat → Int32, g_9 = upd f i (vp_nar .byte (((v.toUInt32 >>> ((24 : Int32).toUInt32 &&& Int32.toUInt32 31)).toInt32).toInt8.toInt32)) := ⟨_, rfl⟩
  rw [← ef1] at hP hD
  refine lv_aload_n hx hb dX2_unpackInt_11 rfl (lv_at hl 3 rfl) ?_
  refine lv_iload_n hx hb dX2_unpackInt_12 rfl (lv_at hl 0 rfl) ?_
  refine lv_iinc (v := nI (i + 2)) (lv' := [(3, .int (nI (i + 2))), (0, .ref h0), (1, .int v), (2, .ref a)]) hx hb dX2_unpackInt_13 hl (k := 0) rfl (tk_inc (i + 1)) (by decide) rfl (fun ls hl => ?_)
  refine lv_iload_n hx hb dX2_unpackInt_16 rfl (lv_at hl 2 rfl) ?_
  refine lv_bipush (v := 16) hx hb dX2_unpackInt_17 (by decide) ?_
  refine lv_iushr (v := (v.toUInt32 >>> ((16 : Int32).toUInt32 &&& Int32.toUInt32 31)).toInt32) hx hb dX2_unpackInt_19 rfl ?_
  refine lv_i2b (v := ((v.toUInt32 >>> ((16 : Int32).toUInt32 &&& Int32.toUInt32 31)).toInt32).toInt8.toInt32) hx hb dX2_unpackInt_20 rfl ?_
  refine tk_bst (x := ((v.toUInt32 >>> ((16 : Int32).toUInt32 &&& Int32.toUInt32 31)).toInt32).toInt8.toInt32) hx hb hK hP hD hS 0 0 rfl rfl (i + 1) (by omega) (hn) dX2_unpackInt_21 (fun H locs hP hD hS => ?_)
  have hP : va_P (dC, dI) vwCl [(a, .inl (cB, n, .inl (upd f1 (i + 1) (vp_nar .byte (((v.toUInt32 >>> ((16 : Int32).toUInt32 &&& Int32.toUInt32 31)).toInt32).toInt8.toInt32)))))] H := hP
  have hD : va_D A [(a, .inl (cB, n, .inl (upd f1 (i + 1) (vp_nar .byte (((v.toUInt32 >>> ((16 : Int32).toUInt32 &&& Int32.toUInt32 31)).toInt32).toInt8.toInt32)))))] := hD
  obtain ⟨f2, ef2⟩ : ∃ g_9 : Nat → Int32, g_9 = upd f1 (i + 1) (vp_nar .byte (((v.toUInt32 >>> ((16 : Int32).toUInt32 &&& Int32.toUInt32 31)).toInt32).toInt8.toInt32)) := ⟨_, rfl⟩
  rw [← ef2] at hP hD
  refine lv_aload_n hx hb dX2_unpackInt_22 rfl (lv_at hl 3 rfl) ?_
  refine lv_iload_n hx hb dX2_unpackInt_23 rfl (lv_at hl 0 rfl) ?_
  refine lv_iinc (v := nI (i + 3)) (lv' := [(3, .int (nI (i + 3))), (0, .ref h0), (1, .int v), (2, .ref a)]) hx hb dX2_unpackInt_24 hl (k := 0) rfl (tk_inc (i + 2)) (by decide) rfl (fun ls hl => ?_)
  refine lv_iload_n hx hb dX2_unpackInt_27 rfl (lv_at hl 2 rfl) ?_
  refine lv_bipush (v := 8) hx hb dX2_unpackInt_28 (by decide) ?_
  refine lv_iushr (v := (v.toUInt32 >>> ((8 : Int32).toUInt32 &&& Int32.toUInt32 31)).toInt32) hx hb dX2_unpackInt_30 rfl ?_
  refine lv_i2b (v := ((v.toUInt32 >>> ((8 : Int32).toUInt32 &&& Int32.toUInt32 31)).toInt32).toInt8.toInt32) hx hb dX2_unpackInt_31 rfl ?_
  refine tk_bst (x := ((v.toUInt32 >>> ((8 : Int32).toUInt32 &&& Int32.toUInt32 31)).toInt32).toInt8.toInt32) hx hb hK hP hD hS 0 0 rfl rfl (i + 2) (by omega) (hn) dX2_unpackInt_32 (fun H locs hP hD hS => ?_)
  have hP : va_P (dC, dI) vwCl [(a, .inl (cB, n, .inl (upd f2 (i + 2) (vp_nar .byte (((v.toUInt32 >>> ((8 : Int32).toUInt32 &&& Int32.toUInt32 31)).toInt32).toInt8.toInt32)))))] H := hP
  have hD : va_D A [(a, .inl (cB, n, .inl (upd f2 (i + 2) (vp_nar .byte (((v.toUInt32 >>> ((8 : Int32).toUInt32 &&& Int32.toUInt32 31)).toInt32).toInt8.toInt32)))))] := hD
  obtain ⟨f3, ef3⟩ : ∃ g_9 : Nat → Int32, g_9 = upd f2 (i + 2) (vp_nar .byte (((v.toUInt32 >>> ((8 : Int32).toUInt32 &&& Int32.toUInt32 31)).toInt32).toInt8.toInt32)) := ⟨_, rfl⟩
  rw [← ef3] at hP hD
  refine lv_aload_n hx hb dX2_unpackInt_33 rfl (lv_at hl 3 rfl) ?_
  refine lv_iload_n hx hb dX2_unpackInt_34 rfl (lv_at hl 0 rfl) ?_
  refine lv_iload_n hx hb dX2_unpackInt_35 rfl (lv_at hl 2 rfl) ?_
  refine lv_i2b (v := v.toInt8.toInt32) hx hb dX2_unpackInt_36 rfl ?_
  refine tk_bst (x := v.toInt8.toInt32) hx hb hK hP hD hS 0 0 rfl rfl (i + 3) (by omega) (hn) dX2_unpackInt_37 (fun H locs hP hD hS => ?_)
  have hP : va_P (dC, dI) vwCl [(a, .inl (cB, n, .inl (upd f3 (i + 3) (vp_nar .byte v.toInt8.toInt32))))] H := hP
  have hD : va_D A [(a, .inl (cB, n, .inl (upd f3 (i + 3) (vp_nar .byte v.toInt8.toInt32))))] := hD
  obtain ⟨f4, ef4⟩ : ∃ g_9 : Nat → Int32, g_9 = upd f3 (i + 3) (vp_nar .byte v.toInt8.toInt32) := ⟨_, rfl⟩
  rw [← ef4] at hP hD
  have hP9 := hP.sub (ws' := [(a, .inl (cB, n, .inl f4))]) [0] rfl
  have hD9 := hD.sub (ws' := [(a, .inl (cB, n, .inl f4))]) [0] (by decide) rfl
  have hK9 := hK.sub (tys' := [(cB, .byte)]) [0] rfl
  exact W.vret hx hb hr (fun t ht hW => ⟨⟨f4, rfl, tq_unpack ef1 ef2 ef3 ef4, by rw [ht]; exact hP9, va_K.moved hW.alike hK9, hD9⟩, hS.F ht⟩) hS.2.2 dX2_unpackInt_38
set_option maxHeartbeats 4000000 in
set_option maxRecDepth 100000 in
/-- unpackInt: the word v goes to place i -/
theorem metX3_unpackInt (l : Launch) (dC : Nat → ClassId) (dI : Nat → Nat → Nat) (h0 a : Nat) (cB : ClassId) (n : Nat) (f : Nat → Int32) (v : Int32) (i : Nat) (hi : i + 4 ≤ n) (hn : n < 2 ^ 31) (sz : Nat) : Met l yX3_unpackInt (ws_ yX3_unpackInt cX3_unpackInt 4 none) ({ frames := 0, cells := 0, slots := 0, locals := 0 }) (va_Pc [.ref h0, .int v, .ref a, .int (nI i)] (fun U => U.heap.size = sz ∧ va_P (dC, dI) vwCl [(a, .inl (cB, n, .inl f))] U.heap ∧ va_K (dC, dI) vwCl [(cB, .byte)] U ∧ va_D (fun _ => True) [(a, .inl (cB, n, .inl f))])) (va_Qv (fun u : Nat → Int32 => tq_w u i = v ∧ ∀ j, j < i ∨ i + 4 ≤ j → u j = f j) (BArr dC dI a cB n (va_A [(a, .inl (cB, n, .inl f))] sz)) (va_A [(a, .inl (cB, n, .inl f))] sz)) 0 0 (va_A [(a, .inl (cB, n, .inl f))] sz) := by
  refine Met.ofW (cc := cX3_unpackInt) (maxL := 4) (ret := none) (by decide) rfl ?_
  intro p e s m args below meth c s₁ B hml hv
  obtain ⟨rfl, hsz, hP, hK, hD0⟩ := hv
  have hx := B.exec
  have hb := B.bytes
  have hr := B.returns
  have hts := atoms_spec (ws := ws_ yX3_unpackInt cX3_unpackInt 4 none) B.pre
  have hts : ∀ w ∈ lw_all, w.before _ s = true := fun w h => hts w (List.mem_cons_of_mem _ h)
  have hown : s.vm.findClass RX3 = some m.cls := findClass_of_methodNamed B.named
  have hlocks := B.notSynchronized
  subst hsz
  have hD := hD0.self (sz := s.heap.size)
  generalize hAe : va_A [(a, .inl (cB, n, .inl f))] s.heap.size = A at hD ⊢
  have hA : ∀ q : Nat, s.heap.size ≤ q → A q := fun q h => by rw [← hAe]; exact Or.inr h
  have hS : va_S A s.heap s.heap [] := va_S.rf
  have hl := lv_entry ([.ref h0, .int v, .ref a, .int (nI i)]) (n := 4) (Nat.le_of_ble_eq_true rfl)
  rw [lg_entry_eq]
  generalize (lg_sl ([.ref h0, .int v, .ref a, .int (nI i)]) ++ List.replicate (4 - (lg_sl ([.ref h0, .int v, .ref a, .int (nI i)])).length) Slot.unset).toArray = ls at hl ⊢
  have hl : lv_has ls 4 [(0, .ref h0), (1, .int v), (2, .ref a), (3, .int (nI i))] := hl
  have hP : va_P (dC, dI) vwCl [(a, .inl (cB, n, .inl f))] s.heap := hP
  refine lv_aload_n hx hb dX3_unpackInt_0 rfl (lv_at hl 2 rfl) ?_
  refine lv_iload_n hx hb dX3_unpackInt_1 rfl (lv_at hl 3 rfl) ?_
  refine lv_iinc (v := nI (i + 1)) (lv' := [(3, .int (nI (i + 1))), (0, .ref h0), (1, .int v), (2, .ref a)]) hx hb dX3_unpackInt_2 hl (k := 3) rfl (tk_inc (i)) (by decide) rfl (fun ls hl => ?_)
  refine lv_iload_n hx hb dX3_unpackInt_5 rfl (lv_at hl 2 rfl) ?_
  refine lv_bipush (v := 24) hx hb dX3_unpackInt_6 (by decide) ?_
  refine lv_iushr (v := (v.toUInt32 >>> ((24 : Int32).toUInt32 &&& Int32.toUInt32 31)).toInt32) hx hb dX3_unpackInt_8 rfl ?_
  refine lv_i2b (v := ((v.toUInt32 >>> ((24 : Int32).toUInt32 &&& Int32.toUInt32 31)).toInt32).toInt8.toInt32) hx hb dX3_unpackInt_9 rfl ?_
  refine tk_bst (x := ((v.toUInt32 >>> ((24 : Int32).toUInt32 &&& Int32.toUInt32 31)).toInt32).toInt8.toInt32) hx hb hK hP hD hS 0 0 rfl rfl (i) (by omega) (hn) dX3_unpackInt_10 (fun H locs hP hD hS => ?_)
  have hP : va_P (dC, dI) vwCl [(a, .inl (cB, n, .inl (upd f i (vp_nar .byte (((v.toUInt32 >>> ((24 : Int32).toUInt32 &&& Int32.toUInt32 31)).toInt32).toInt8.toInt32)))))] H := hP
  have hD : va_D A [(a, .inl (cB, n, .inl (upd f i (vp_nar .byte (((v.toUInt32 >>> ((24 : Int32).toUInt32 &&& Int32.toUInt32 31)).toInt32).toInt8.toInt32)))))] := hD
  obtain ⟨f1, ef1⟩ : ∃ g_9 : Nat → Int32, g_9 = upd f i (vp_nar .byte (((v.toUInt32 >>> ((24 : Int32).toUInt32 &&& Int32.toUInt32 31)).toInt32).toInt8.toInt32)) := ⟨_, rfl⟩
  rw [← ef1] at hP hD
  refine lv_aload_n hx hb dX3_unpackInt_11 rfl (lv_at hl 3 rfl) ?_
  refine lv_iload_n hx hb dX3_unpackInt_12 rfl (lv_at hl 0 rfl) ?_
  refine lv_iinc (v := nI (i + 2)) (lv' := [(3, .int (nI (i + 2))), (0, .ref h0), (1, .int v), (2, .ref a)]) hx hb dX3_unpackInt_13 hl (k := 0) rfl (tk_inc (i + 1)) (by decide) rfl (fun ls hl => ?_)
  refine lv_iload_n hx hb dX3_unpackInt_16 rfl (lv_at hl 2 rfl) ?_
  refine lv_bipush (v := 16) hx hb dX3_unpackInt_17 (by decide) ?_
  refine lv_iushr (v := (v.toUInt32 >>> ((16 : Int32).toUInt32 &&& Int32.toUInt32 31)).toInt32) hx hb dX3_unpackInt_19 rfl ?_
  refine lv_i2b (v := ((v.toUInt32 >>> ((16 : Int32).toUInt32 &&& Int32.toUInt32 31)).toInt32).toInt8.toInt32) hx hb dX3_unpackInt_20 rfl ?_
  refine tk_bst (x := ((v.toUInt32 >>> ((16 : Int32).toUInt32 &&& Int32.toUInt32 31)).toInt32).toInt8.toInt32) hx hb hK hP hD hS 0 0 rfl rfl (i + 1) (by omega) (hn) dX3_unpackInt_21 (fun H locs hP hD hS => ?_)
  have hP : va_P (dC, dI) vwCl [(a, .inl (cB, n, .inl (upd f1 (i + 1) (vp_nar .byte (((v.toUInt32 >>> ((16 : Int32).toUInt32 &&& Int32.toUInt32 31)).toInt32).toInt8.toInt32)))))] H := hP
  have hD : va_D A [(a, .inl (cB, n, .inl (upd f1 (i + 1) (vp_nar .byte (((v.toUInt32 >>> ((16 : Int32).toUInt32 &&& Int32.toUInt32 31)).toInt32).toInt8.toInt32)))))] := hD
  obtain ⟨f2, ef2⟩ : ∃ g_9 : Nat → Int32, g_9 = upd f1 (i + 1) (vp_nar .byte (((v.toUInt32 >>> ((16 : Int32).toUInt32 &&& Int32.toUInt32 31)).toInt32).toInt8.toInt32)) := ⟨_, rfl⟩
  rw [← ef2] at hP hD
  refine lv_aload_n hx hb dX3_unpackInt_22 rfl (lv_at hl 3 rfl) ?_
  refine lv_iload_n hx hb dX3_unpackInt_23 rfl (lv_at hl 0 rfl) ?_
  refine lv_iinc (v := nI (i + 3)) (lv' := [(3, .int (nI (i + 3))), (0, .ref h0), (1, .int v), (2, .ref a)]) hx hb dX3_unpackInt_24 hl (k := 0) rfl (tk_inc (i + 2)) (by decide) rfl (fun ls hl => ?_)
  refine lv_iload_n hx hb dX3_unpackInt_27 rfl (lv_at hl 2 rfl) ?_
  refine lv_bipush (v := 8) hx hb dX3_unpackInt_28 (by decide) ?_
  refine lv_iushr (v := (v.toUInt32 >>> ((8 : Int32).toUInt32 &&& Int32.toUInt32 31)).toInt32) hx hb dX3_unpackInt_30 rfl ?_
  refine lv_i2b (v := ((v.toUInt32 >>> ((8 : Int32).toUInt32 &&& Int32.toUInt32 31)).toInt32).toInt8.toInt32) hx hb dX3_unpackInt_31 rfl ?_
  refine tk_bst (x := ((v.toUInt32 >>> ((8 : Int32).toUInt32 &&& Int32.toUInt32 31)).toInt32).toInt8.toInt32) hx hb hK hP hD hS 0 0 rfl rfl (i + 2) (by omega) (hn) dX3_unpackInt_32 (fun H locs hP hD hS => ?_)
  have hP : va_P (dC, dI) vwCl [(a, .inl (cB, n, .inl (upd f2 (i + 2) (vp_nar .byte (((v.toUInt32 >>> ((8 : Int32).toUInt32 &&& Int32.toUInt32 31)).toInt32).toInt8.toInt32)))))] H := hP
  have hD : va_D A [(a, .inl (cB, n, .inl (upd f2 (i + 2) (vp_nar .byte (((v.toUInt32 >>> ((8 : Int32).toUInt32 &&& Int32.toUInt32 31)).toInt32).toInt8.toInt32)))))] := hD
  obtain ⟨f3, ef3⟩ : ∃ g_9 : Nat → Int32, g_9 = upd f2 (i + 2) (vp_nar .byte (((v.toUInt32 >>> ((8 : Int32).toUInt32 &&& Int32.toUInt32 31)).toInt32).toInt8.toInt32)) := ⟨_, rfl⟩
  rw [← ef3] at hP hD
  refine lv_aload_n hx hb dX3_unpackInt_33 rfl (lv_at hl 3 rfl) ?_
  refine lv_iload_n hx hb dX3_unpackInt_34 rfl (lv_at hl 0 rfl) ?_
  refine lv_iload_n hx hb dX3_unpackInt_35 rfl (lv_at hl 2 rfl) ?_
  refine lv_i2b (v := v.toInt8.toInt32) hx hb dX3_unpackInt_36 rfl ?_
  refine tk_bst (x := v.toInt8.toInt32) hx hb hK hP hD hS 0 0 rfl rfl (i + 3) (by omega) (hn) dX3_unpackInt_37 (fun H locs hP hD hS => ?_)
  have hP : va_P (dC, dI) vwCl [(a, .inl (cB, n, .inl (upd f3 (i + 3) (vp_nar .byte v.toInt8.toInt32))))] H := hP
  have hD : va_D A [(a, .inl (cB, n, .inl (upd f3 (i + 3) (vp_nar .byte v.toInt8.toInt32))))] := hD
  obtain ⟨f4, ef4⟩ : ∃ g_9 : Nat → Int32, g_9 = upd f3 (i + 3) (vp_nar .byte v.toInt8.toInt32) := ⟨_, rfl⟩
  rw [← ef4] at hP hD
  have hP9 := hP.sub (ws' := [(a, .inl (cB, n, .inl f4))]) [0] rfl
  have hD9 := hD.sub (ws' := [(a, .inl (cB, n, .inl f4))]) [0] (by decide) rfl
  have hK9 := hK.sub (tys' := [(cB, .byte)]) [0] rfl
  exact W.vret hx hb hr (fun t ht hW => ⟨⟨f4, rfl, tq_unpack ef1 ef2 ef3 ef4, by rw [ht]; exact hP9, va_K.moved hW.alike hK9, hD9⟩, hS.F ht⟩) hS.2.2 dX3_unpackInt_38
set_option maxHeartbeats 4000000 in
set_option maxRecDepth 100000 in
/-- word: the word v goes to place i -/
theorem metX0_word (l : Launch) (dC : Nat → ClassId) (dI : Nat → Nat → Nat) (a : Nat) (cB : ClassId) (n : Nat) (f : Nat → Int32) (v : Int32) (i : Nat) (hi : i + 4 ≤ n) (hn : n < 2 ^ 31) (sz : Nat) : Met l yX0_word (ws_ yX0_word cX0_word 3 none) ({ frames := 0, cells := 0, slots := 0, locals := 0 }) (va_Pc [.ref a, .int (nI i), .int v] (fun U => U.heap.size = sz ∧ va_P (dC, dI) vwCl [(a, .inl (cB, n, .inl f))] U.heap ∧ va_K (dC, dI) vwCl [(cB, .byte)] U ∧ va_D (fun _ => True) [(a, .inl (cB, n, .inl f))])) (va_Qv (fun u : Nat → Int32 => tq_w u i = v ∧ ∀ j, j < i ∨ i + 4 ≤ j → u j = f j) (BArr dC dI a cB n (va_A [(a, .inl (cB, n, .inl f))] sz)) (va_A [(a, .inl (cB, n, .inl f))] sz)) 0 0 (va_A [(a, .inl (cB, n, .inl f))] sz) := by
  refine Met.ofW (cc := cX0_word) (maxL := 3) (ret := none) (by decide) rfl ?_
  intro p e s m args below meth c s₁ B hml hv
  obtain ⟨rfl, hsz, hP, hK, hD0⟩ := hv
  have hx := B.exec
  have hb := B.bytes
  have hr := B.returns
  have hts := atoms_spec (ws := ws_ yX0_word cX0_word 3 none) B.pre
  have hts : ∀ w ∈ lw_all, w.before _ s = true := fun w h => hts w (List.mem_cons_of_mem _ h)
  have hown : s.vm.findClass RX0 = some m.cls := findClass_of_methodNamed B.named
  have hlocks := B.notSynchronized
  subst hsz
  have hD := hD0.self (sz := s.heap.size)
  generalize hAe : va_A [(a, .inl (cB, n, .inl f))] s.heap.size = A at hD ⊢
  have hA : ∀ q : Nat, s.heap.size ≤ q → A q := fun q h => by rw [← hAe]; exact Or.inr h
  have hS : va_S A s.heap s.heap [] := va_S.rf
  have hl := lv_entry ([.ref a, .int (nI i), .int v]) (n := 3) (Nat.le_of_ble_eq_true rfl)
  rw [lg_entry_eq]
  generalize (lg_sl ([.ref a, .int (nI i), .int v]) ++ List.replicate (3 - (lg_sl ([.ref a, .int (nI i), .int v])).length) Slot.unset).toArray = ls at hl ⊢
  have hl : lv_has ls 3 [(0, .ref a), (1, .int (nI i)), (2, .int v)] := hl
  have hP : va_P (dC, dI) vwCl [(a, .inl (cB, n, .inl f))] s.heap := hP
  refine lv_aload_n hx hb dX0_word_0 rfl (lv_at hl 0 rfl) ?_
  refine lv_iload_n hx hb dX0_word_1 rfl (lv_at hl 1 rfl) ?_
  refine lv_iload_n hx hb dX0_word_2 rfl (lv_at hl 2 rfl) ?_
  refine lv_bipush (v := 24) hx hb dX0_word_3 (by decide) ?_
  refine lv_ishr hx hb dX0_word_5 ?_
  refine lv_i2b (v := (v >>> (24 &&& 31)).toInt8.toInt32) hx hb dX0_word_6 rfl ?_
  refine tk_bst (x := (v >>> (24 &&& 31)).toInt8.toInt32) hx hb hK hP hD hS 0 0 rfl rfl (i) (by omega) (hn) dX0_word_7 (fun H locs hP hD hS => ?_)
  have hP : va_P (dC, dI) vwCl [(a, .inl (cB, n, .inl (upd f i (vp_nar .byte ((v >>> (24 &&& 31)).toInt8.toInt32)))))] H := hP
  have hD : va_D A [(a, .inl (cB, n, .inl (upd f i (vp_nar .byte ((v >>> (24 &&& 31)).toInt8.toInt32)))))] := hD
  obtain ⟨f1, ef1⟩ : ∃ g_9 : Nat → Int32, g_9 = upd f i (vp_nar .byte ((v >>> (24 &&& 31)).toInt8.toInt32)) := ⟨_, rfl⟩
  rw [← ef1] at hP hD
  refine lv_aload_n hx hb dX0_word_8 rfl (lv_at hl 0 rfl) ?_
  refine lv_iload_n hx hb dX0_word_9 rfl (lv_at hl 1 rfl) ?_
  refine lv_iconst (v := 1) hx hb dX0_word_10 (by decide) ?_
  refine lv_iadd hx hb dX0_word_11 ?_
  refine tk_as (nI (i + 1)) (nI_add i 1) ?_
  refine lv_iload_n hx hb dX0_word_12 rfl (lv_at hl 2 rfl) ?_
  refine lv_bipush (v := 16) hx hb dX0_word_13 (by decide) ?_
  refine lv_ishr hx hb dX0_word_15 ?_
  refine lv_i2b (v := (v >>> (16 &&& 31)).toInt8.toInt32) hx hb dX0_word_16 rfl ?_
  refine tk_bst (x := (v >>> (16 &&& 31)).toInt8.toInt32) hx hb hK hP hD hS 0 0 rfl rfl (i + 1) (by omega) (hn) dX0_word_17 (fun H locs hP hD hS => ?_)
  have hP : va_P (dC, dI) vwCl [(a, .inl (cB, n, .inl (upd f1 (i + 1) (vp_nar .byte ((v >>> (16 &&& 31)).toInt8.toInt32)))))] H := hP
  have hD : va_D A [(a, .inl (cB, n, .inl (upd f1 (i + 1) (vp_nar .byte ((v >>> (16 &&& 31)).toInt8.toInt32)))))] := hD
  obtain ⟨f2, ef2⟩ : ∃ g_9 : Nat → Int32, g_9 = upd f1 (i + 1) (vp_nar .byte ((v >>> (16 &&& 31)).toInt8.toInt32)) := ⟨_, rfl⟩
  rw [← ef2] at hP hD
  refine lv_aload_n hx hb dX0_word_18 rfl (lv_at hl 0 rfl) ?_
  refine lv_iload_n hx hb dX0_word_19 rfl (lv_at hl 1 rfl) ?_
  refine lv_iconst (v := 2) hx hb dX0_word_20 (by decide) ?_
  refine lv_iadd hx hb dX0_word_21 ?_
  refine tk_as (nI (i + 2)) (nI_add i 2) ?_
  refine lv_iload_n hx hb dX0_word_22 rfl (lv_at hl 2 rfl) ?_
  refine lv_bipush (v := 8) hx hb dX0_word_23 (by decide) ?_
  refine lv_ishr hx hb dX0_word_25 ?_
  refine lv_i2b (v := (v >>> (8 &&& 31)).toInt8.toInt32) hx hb dX0_word_26 rfl ?_
  refine tk_bst (x := (v >>> (8 &&& 31)).toInt8.toInt32) hx hb hK hP hD hS 0 0 rfl rfl (i + 2) (by omega) (hn) dX0_word_27 (fun H locs hP hD hS => ?_)
  have hP : va_P (dC, dI) vwCl [(a, .inl (cB, n, .inl (upd f2 (i + 2) (vp_nar .byte ((v >>> (8 &&& 31)).toInt8.toInt32)))))] H := hP
  have hD : va_D A [(a, .inl (cB, n, .inl (upd f2 (i + 2) (vp_nar .byte ((v >>> (8 &&& 31)).toInt8.toInt32)))))] := hD
  obtain ⟨f3, ef3⟩ : ∃ g_9 : Nat → Int32, g_9 = upd f2 (i + 2) (vp_nar .byte ((v >>> (8 &&& 31)).toInt8.toInt32)) := ⟨_, rfl⟩
  rw [← ef3] at hP hD
  refine lv_aload_n hx hb dX0_word_28 rfl (lv_at hl 0 rfl) ?_
  refine lv_iload_n hx hb dX0_word_29 rfl (lv_at hl 1 rfl) ?_
  refine lv_iconst (v := 3) hx hb dX0_word_30 (by decide) ?_
  refine lv_iadd hx hb dX0_word_31 ?_
  refine tk_as (nI (i + 3)) (nI_add i 3) ?_
  refine lv_iload_n hx hb dX0_word_32 rfl (lv_at hl 2 rfl) ?_
  refine lv_i2b (v := v.toInt8.toInt32) hx hb dX0_word_33 rfl ?_
  refine tk_bst (x := v.toInt8.toInt32) hx hb hK hP hD hS 0 0 rfl rfl (i + 3) (by omega) (hn) dX0_word_34 (fun H locs hP hD hS => ?_)
  have hP : va_P (dC, dI) vwCl [(a, .inl (cB, n, .inl (upd f3 (i + 3) (vp_nar .byte v.toInt8.toInt32))))] H := hP
  have hD : va_D A [(a, .inl (cB, n, .inl (upd f3 (i + 3) (vp_nar .byte v.toInt8.toInt32))))] := hD
  obtain ⟨f4, ef4⟩ : ∃ g_9 : Nat → Int32, g_9 = upd f3 (i + 3) (vp_nar .byte v.toInt8.toInt32) := ⟨_, rfl⟩
  rw [← ef4] at hP hD
  have hP9 := hP.sub (ws' := [(a, .inl (cB, n, .inl f4))]) [0] rfl
  have hD9 := hD.sub (ws' := [(a, .inl (cB, n, .inl f4))]) [0] (by decide) rfl
  have hK9 := hK.sub (tys' := [(cB, .byte)]) [0] rfl
  exact W.vret hx hb hr (fun t ht hW => ⟨⟨f4, rfl, tq_word ef1 ef2 ef3 ef4, by rw [ht]; exact hP9, va_K.moved hW.alike hK9, hD9⟩, hS.F ht⟩) hS.2.2 dX0_word_35
set_option maxHeartbeats 4000000 in
set_option maxRecDepth 100000 in
/-- size: 16 -/
theorem metX0_size (l : Launch) (dC : Nat → ClassId) (dI : Nat → Nat → Nat) (k : Int32) : Met l yX0_size (ws_ yX0_size cX0_size 1 (some .int)) ({ frames := 0, cells := 0, slots := 0, locals := 0 }) (va_Pc [.int k] (fun U => True)) (vp_Si (fun r => r = 16)) 0 0 (fun _ => False) := by
  refine Met.ofW (cc := cX0_size) (maxL := 1) (ret := (some .int)) (by decide) rfl ?_
  intro p e s m args below meth c s₁ B hml hv
  obtain ⟨rfl, -⟩ := hv
  have hx := B.exec
  have hb := B.bytes
  have hr := B.returns
  have hts := atoms_spec (ws := ws_ yX0_size cX0_size 1 (some .int)) B.pre
  have hts : ∀ w ∈ lw_all, w.before _ s = true := fun w h => hts w (List.mem_cons_of_mem _ h)
  have hown : s.vm.findClass RX0 = some m.cls := findClass_of_methodNamed B.named
  have hlocks := B.notSynchronized
  have hl := lv_entry ([.int k]) (n := 1) (Nat.le_of_ble_eq_true rfl)
  rw [lg_entry_eq]
  generalize (lg_sl ([.int k]) ++ List.replicate (1 - (lg_sl ([.int k])).length) Slot.unset).toArray = ls at hl ⊢
  have hl : lv_has ls 1 [(0, .int k)] := hl
  refine lv_bipush (v := 16) hx hb dX0_size_0 (by decide) ?_
  exact W.iret hx hb hr (fun t ht hW => ⟨_, rfl, rfl, ht⟩) tk_nil dX0_size_2
end
section
/-! KeyParameter -/
set_option maxHeartbeats 4000000 in
set_option maxRecDepth 100000 in
/-- KeyParameter(16): a new array -/
theorem metX4_init_3 (l : Launch) (dC : Nat → ClassId) (dI : Nat → Nat → Nat) (h0 sz : Nat) : Met l yX4_init_3 (ws_ yX4_init_3 cX4_init_3 2 none) ({ frames := 1, cells := 1, slots := 16, locals := 12 }) (va_Pc [.ref h0, .int 16] (fun U => U.heap.size = sz ∧ va_P (dC, dI) vwCl [(h0, .inr (4, [.null]))] U.heap ∧ va_K (dC, dI) vwCl [] U ∧ va_D (fun _ => True) [(h0, .inr (4, [.null]))])) (va_Qv (fun _ : Unit => True) (fun _ t => ∃ (qa : Nat) (ca : ClassId), va_P (dC, dI) vwCl [(h0, .inr (4, [.ref qa])), (qa, .inl (ca, 16, .inl (fun _ => 0)))] t.heap ∧ va_K (dC, dI) vwCl [(ca, .byte)] t ∧ va_D (va_A [(h0, .inr (4, [.null]))] sz) [(h0, .inr (4, [.ref qa])), (qa, .inl (ca, 16, .inl (fun _ => 0)))]) (va_A [(h0, .inr (4, [.null]))] sz)) 1 16 (va_A [(h0, .inr (4, [.null]))] sz) := by
  refine Met.ofW (cc := cX4_init_3) (maxL := 2) (ret := none) (by decide) rfl ?_
  intro p e s m args below meth c s₁ B hml hv
  obtain ⟨rfl, hsz, hP, hK, hD0⟩ := hv
  have hx := B.exec
  have hb := B.bytes
  have hr := B.returns
  have hts := atoms_spec (ws := ws_ yX4_init_3 cX4_init_3 2 none) B.pre
  have hts : ∀ w ∈ lw_all, w.before _ s = true := fun w h => hts w (List.mem_cons_of_mem _ h)
  have hown : s.vm.findClass RX4 = some m.cls := findClass_of_methodNamed B.named
  have hlocks := B.notSynchronized
  have hin : meth.name = "<init>" := (name_of_methodNamed B.named B.method).1
  subst hsz
  have hD := hD0.self (sz := s.heap.size)
  generalize hAe : va_A [(h0, .inr (4, [.null]))] s.heap.size = A at hD ⊢
  have hA : ∀ q : Nat, s.heap.size ≤ q → A q := fun q h => by rw [← hAe]; exact Or.inr h
  have hS : va_S A s.heap s.heap [] := va_S.rf
  have hl := lv_entry ([.ref h0, .int 16]) (n := 2) (Nat.le_of_ble_eq_true rfl)
  rw [lg_entry_eq]
  generalize (lg_sl ([.ref h0, .int 16]) ++ List.replicate (2 - (lg_sl ([.ref h0, .int 16])).length) Slot.unset).toArray = ls at hl ⊢
  have hl : lv_has ls 2 [(0, .ref h0), (1, .int 16)] := hl
  have hP : va_P (dC, dI) vwCl [(h0, .inr (4, [.null]))] s.heap := hP
  refine lv_aload_n hx hb dX4_init_3_0 rfl (lv_at hl 0 rfl) ?_
  refine W.objInit hx hb hown (hts _ q131) (hts _ q37) (hts _ q38) rfl (by rw [hml]; exact hl.1) rfl dX4_init_3_1 (Nat.le_of_ble_eq_true rfl) (Nat.le_of_ble_eq_true rfl) ?_
  refine W.eq (g2 := F0 m 4 ls []) rfl ?_
  refine lv_aload_n hx hb dX4_init_3_4 rfl (lv_at hl 0 rfl) ?_
  refine lv_iload_n hx hb dX4_init_3_5 rfl (lv_at hl 1 rfl) ?_
  refine va_newa (atype := .byte) (ty := .byte) (N' := 16) (a0 := (16, .inl (fun _ => 0))) hx hb (hts _ q49) rfl hK hP hD hS hA (fun _ => rfl) (by decide) (by decide) (Nat.le_of_ble_eq_true rfl) (Nat.le_of_ble_eq_true rfl) (Nat.le_of_ble_eq_true rfl) dX4_init_3_6 (fun qa ca H hK hP hD hS => ?_)
  have hP : va_P (dC, dI) vwCl [(h0, .inr (4, [.null])), (qa, .inl (ca, 16, .inl (fun _ => 0)))] H := hP
  have hD : va_D A [(h0, .inr (4, [.null])), (qa, .inl (ca, 16, .inl (fun _ => 0)))] := hD
  have hK : va_K (dC, dI) vwCl [(ca, .byte)] s := hK
  refine va_put (D := (dC, dI)) (ci := 4) (v := .ref qa) (ty := .array .byte) (C := RX4) (T := TX4) (N := 1) hx hb hts in_X4 tyX4 tyX4_ok nmX4 hown hK hP hD hS 0 rfl rfl 0 (by decide) (hts _ q132) (fun _ h9 => h9) rfl (by decide +kernel) rfl rfl (Nat.le_of_ble_eq_true rfl) dX4_init_3_8 (fun H locs hP hD hS => ?_)
  have hP : va_P (dC, dI) vwCl [(h0, .inr (4, [.ref qa])), (qa, .inl (ca, 16, .inl (fun _ => 0)))] H := hP
  have hD : va_D A [(h0, .inr (4, [.ref qa])), (qa, .inl (ca, 16, .inl (fun _ => 0)))] := hD
  have hP9 := hP.sub (ws' := [(h0, .inr (4, [.ref qa])), (qa, .inl (ca, 16, .inl (fun _ => 0)))]) [0, 1] rfl
  have hD9 := hD.sub (ws' := [(h0, .inr (4, [.ref qa])), (qa, .inl (ca, 16, .inl (fun _ => 0)))]) [0, 1] (by decide) rfl
  have hK9 := hK.sub (tys' := [(ca, .byte)]) [0] rfl
  exact W.vret hx hb hr (fun t ht hW => ⟨⟨(), rfl, trivial, qa, ca, by rw [ht]; exact hP9, va_K.moved hW.alike hK9, hD9⟩, hS.F ht⟩) hS.2.2 dX4_init_3_11
set_option maxHeartbeats 4000000 in
set_option maxRecDepth 100000 in
/-- KeyParameter(k, 0, 16): a copy of k -/
theorem metX4_init_2 (l : Launch) (dC : Nat → ClassId) (dI : Nat → Nat → Nat) (h0 a : Nat) (cB : ClassId) (f : Nat → Int32) (hf : ∀ j, j < 16 → fits .byte (.int (f j)) = true) (sz : Nat) : Met l yX4_init_2 (ws_ yX4_init_2 cX4_init_2 4 none) ({ frames := 2, cells := 1, slots := 16, locals := 40 }) (va_Pc [.ref h0, .ref a, .int 0, .int 16] (fun U => U.heap.size = sz ∧ va_P (dC, dI) vwCl [(h0, .inr (4, [.null])), (a, .inl (cB, 16, .inl f))] U.heap ∧ va_K (dC, dI) vwCl [(cB, .byte)] U ∧ va_D (fun _ => True) [(h0, .inr (4, [.null])), (a, .inl (cB, 16, .inl f))])) (va_Qv (fun u : Nat → Int32 => ∀ j, j < 16 → u j = f j) (fun u t => ∃ (qa : Nat) (ca : ClassId), va_P (dC, dI) vwCl [(h0, .inr (4, [.ref qa])), (a, .inl (cB, 16, .inl f)), (qa, .inl (ca, 16, .inl u))] t.heap ∧ va_K (dC, dI) vwCl [(cB, .byte), (ca, .byte)] t ∧ va_D (va_A [(h0, .inr (4, [.null])), (a, .inl (cB, 16, .inl f))] sz) [(h0, .inr (4, [.ref qa])), (a, .inl (cB, 16, .inl f)), (qa, .inl (ca, 16, .inl u))]) (va_A [(h0, .inr (4, [.null])), (a, .inl (cB, 16, .inl f))] sz)) 1 16 (va_A [(h0, .inr (4, [.null])), (a, .inl (cB, 16, .inl f))] sz) := by
  refine Met.ofW (cc := cX4_init_2) (maxL := 4) (ret := none) (by decide) rfl ?_
  intro p e s m args below meth c s₁ B hml hv
  obtain ⟨rfl, hsz, hP, hK, hD0⟩ := hv
  have hx := B.exec
  have hb := B.bytes
  have hr := B.returns
  have hts := atoms_spec (ws := ws_ yX4_init_2 cX4_init_2 4 none) B.pre
  have hts : ∀ w ∈ lw_all, w.before _ s = true := fun w h => hts w (List.mem_cons_of_mem _ h)
  have hown : s.vm.findClass RX4 = some m.cls := findClass_of_methodNamed B.named
  have hlocks := B.notSynchronized
  have hin : meth.name = "<init>" := (name_of_methodNamed B.named B.method).1
  subst hsz
  have hD := hD0.self (sz := s.heap.size)
  generalize hAe : va_A [(h0, .inr (4, [.null])), (a, .inl (cB, 16, .inl f))] s.heap.size = A at hD ⊢
  have hA : ∀ q : Nat, s.heap.size ≤ q → A q := fun q h => by rw [← hAe]; exact Or.inr h
  have hS : va_S A s.heap s.heap [] := va_S.rf
  have hl := lv_entry ([.ref h0, .ref a, .int 0, .int 16]) (n := 4) (Nat.le_of_ble_eq_true rfl)
  rw [lg_entry_eq]
  generalize (lg_sl ([.ref h0, .ref a, .int 0, .int 16]) ++ List.replicate (4 - (lg_sl ([.ref h0, .ref a, .int 0, .int 16])).length) Slot.unset).toArray = ls at hl ⊢
  have hl : lv_has ls 4 [(0, .ref h0), (1, .ref a), (2, .int 0), (3, .int 16)] := hl
  have hP : va_P (dC, dI) vwCl [(h0, .inr (4, [.null])), (a, .inl (cB, 16, .inl f))] s.heap := hP
  refine lv_aload_n hx hb dX4_init_2_0 rfl (lv_at hl 0 rfl) ?_
  refine lv_iload_n hx hb dX4_init_2_1 rfl (lv_at hl 3 rfl) ?_
  have hPc := hP.sub (ws' := [(h0, .inr (4, [.null]))]) [0] rfl
  have hDc := hD.sub (ws' := [(h0, .inr (4, [.null]))]) [0] (by decide) rfl
  have hKc := hK.sub (tys' := []) [] rfl
  have hFc := va_free (wc := [(h0, .inr (4, [.null]))]) hD hS hA [0] rfl
  refine va_callv (va_runI (As := [.int 16]) (rest := []) ⟨hx, hb, hml, hown, hts⟩ (metX4_init_3 l dC dI h0 s.heap.size) (cwI 1 hts (lw_meth q130) rfl rfl rfl (hts _ q21) (hts _ q128) (hts _ q129) rfl (by decide +kernel) ⟨Nat.le_of_ble_eq_true rfl, Nat.le_of_ble_eq_true rfl⟩) ⟨fun a U g mk q => by obtain ⟨q0, q1, qP, qK, qD⟩ := q; exact ⟨q0, q1, qP, va_K.moved (u := U) (U := U.calling g mk a) (Vm.Alike.refl U.vm) qK, qD⟩, fun U hU hW => ⟨rfl, by rw [hU], by rw [hU]; exact hPc, va_K.moved hW.alike hKc, hDc.weaken (fun _ _ _ _ => trivial)⟩⟩ rfl rfl hl.1 rfl (lv_room (Nat.le_of_ble_eq_true rfl)) dX4_init_2_2 ⟨Nat.le_of_ble_eq_true rfl, Nat.le_of_ble_eq_true rfl⟩) hS (fun q _ h => hFc q h) hFc (fun _u t H1 locs ht hvm hw hB hzz hk1 hS => ?_)
  obtain ⟨qa, ca, hP1, hK1, hD1⟩ := hB
  rw [ht] at hP1
  obtain ⟨hP, hD⟩ := va_join (wr := [(a, .inl (cB, 16, .inl f))]) (w1 := [(h0, .inr (4, [.ref qa])), (qa, .inl (ca, 16, .inl (fun _ => 0)))]) hP hD [0] [1] rfl rfl (by decide) (by decide) hk1 hFc hP1 hD1
  have hK := hK.app ((va_K.moved hvm.symm hK1).sub (tys' := [(ca, .byte)]) [0] rfl)
  generalize H1 = H at hP hS ⊢
  have hP : va_P (dC, dI) vwCl [(a, .inl (cB, 16, .inl f)), (h0, .inr (4, [.ref qa])), (qa, .inl (ca, 16, .inl (fun _ => 0)))] H := hP
  have hD : va_D A [(a, .inl (cB, 16, .inl f)), (h0, .inr (4, [.ref qa])), (qa, .inl (ca, 16, .inl (fun _ => 0)))] := hD
  have hK : va_K (dC, dI) vwCl [(cB, .byte), (ca, .byte)] s := hK
  refine lv_aload_n hx hb dX4_init_2_5 rfl (lv_at hl 1 rfl) ?_
  refine lv_iload_n hx hb dX4_init_2_6 rfl (lv_at hl 2 rfl) ?_
  refine lv_aload_n hx hb dX4_init_2_7 rfl (lv_at hl 0 rfl) ?_
  refine va_get (D := (dC, dI)) (ci := 4) (v := .ref qa) (C := RX4) (T := TX4) (N := 1) hx hb hts in_X4 hown hK hP 1 rfl rfl 0 (by decide) (hts _ q132) (fun _ h9 => h9) rfl dX4_init_2_8 ?_
  refine lv_iconst (v := 0) hx hb dX4_init_2_11 (by decide) ?_
  refine lv_iload_n hx hb dX4_init_2_12 rfl (lv_at hl 3 rfl) ?_
  refine va_copyi hx hb (hml.trans hl.1.symm) hown (hts _ q136) (hts _ q138) (hts _ q137) (hts _ q22) hK hP hD hS 0 2 0 1 rfl rfl rfl rfl rfl (by decide) (by decide) (by decide) (by decide) (by decide) (fun i hi => by rw [sb_cl0, Nat.zero_add]; exact hf i hi) (Nat.le_of_ble_eq_true rfl) (Nat.le_of_ble_eq_true rfl) dX4_init_2_13 (fun H locs hP hD hS => ?_)
  have hP : va_P (dC, dI) vwCl [(a, .inl (cB, 16, .inl f)), (h0, .inr (4, [.ref qa])), (qa, .inl (ca, 16, .inl (va_cpy f (fun _ => 0) (0 : Int32).toNatClampNeg (0 : Int32).toNatClampNeg (16 : Int32).toNatClampNeg)))] H := hP
  have hD : va_D A [(a, .inl (cB, 16, .inl f)), (h0, .inr (4, [.ref qa])), (qa, .inl (ca, 16, .inl (va_cpy f (fun _ => 0) (0 : Int32).toNatClampNeg (0 : Int32).toNatClampNeg (16 : Int32).toNatClampNeg)))] := hD
  obtain ⟨u, eu⟩ : ∃ g_9 : Nat → Int32, g_9 = va_cpy f (fun _ => 0) (0 : Int32).toNatClampNeg (0 : Int32).toNatClampNeg (16 : Int32).toNatClampNeg := ⟨_, rfl⟩
  rw [← eu] at hP hD
  have hu : ∀ j, j < 16 → u j = f j := fun j hj => by rw [eu, sb_cl0, show (16 : Int32).toNatClampNeg = 16 by decide]; exact sb_cpy0 hj
  have hP9 := hP.sub (ws' := [(h0, .inr (4, [.ref qa])), (a, .inl (cB, 16, .inl f)), (qa, .inl (ca, 16, .inl u))]) [1, 0, 2] rfl
  have hD9 := hD.sub (ws' := [(h0, .inr (4, [.ref qa])), (a, .inl (cB, 16, .inl f)), (qa, .inl (ca, 16, .inl u))]) [1, 0, 2] (by decide) rfl
  have hK9 := hK.sub (tys' := [(cB, .byte), (ca, .byte)]) [0, 1] rfl
  exact W.vret hx hb hr (fun t ht hW => ⟨⟨u, rfl, hu, qa, ca, by rw [ht]; exact hP9, va_K.moved hW.alike hK9, hD9⟩, hS.F ht⟩) hS.2.2 dX4_init_2_16
set_option maxHeartbeats 4000000 in
set_option maxRecDepth 100000 in
/-- KeyParameter(k): a copy of k -/
theorem metX4_init (l : Launch) (dC : Nat → ClassId) (dI : Nat → Nat → Nat) (h0 a : Nat) (cB : ClassId) (f : Nat → Int32) (hf : ∀ j, j < 16 → fits .byte (.int (f j)) = true) (sz : Nat) : Met l yX4_init (ws_ yX4_init cX4_init 2 none) ({ frames := 3, cells := 1, slots := 16, locals := 70 }) (va_Pc [.ref h0, .ref a] (fun U => U.heap.size = sz ∧ va_P (dC, dI) vwCl [(h0, .inr (4, [.null])), (a, .inl (cB, 16, .inl f))] U.heap ∧ va_K (dC, dI) vwCl [(cB, .byte)] U ∧ va_D (fun _ => True) [(h0, .inr (4, [.null])), (a, .inl (cB, 16, .inl f))])) (va_Qv (fun u : Nat → Int32 => ∀ j, j < 16 → u j = f j) (fun u t => ∃ (qa : Nat) (ca : ClassId), va_P (dC, dI) vwCl [(h0, .inr (4, [.ref qa])), (a, .inl (cB, 16, .inl f)), (qa, .inl (ca, 16, .inl u))] t.heap ∧ va_K (dC, dI) vwCl [(cB, .byte), (ca, .byte)] t ∧ va_D (va_A [(h0, .inr (4, [.null])), (a, .inl (cB, 16, .inl f))] sz) [(h0, .inr (4, [.ref qa])), (a, .inl (cB, 16, .inl f)), (qa, .inl (ca, 16, .inl u))]) (va_A [(h0, .inr (4, [.null])), (a, .inl (cB, 16, .inl f))] sz)) 1 16 (va_A [(h0, .inr (4, [.null])), (a, .inl (cB, 16, .inl f))] sz) := by
  refine Met.ofW (cc := cX4_init) (maxL := 2) (ret := none) (by decide) rfl ?_
  intro p e s m args below meth c s₁ B hml hv
  obtain ⟨rfl, hsz, hP, hK, hD0⟩ := hv
  have hx := B.exec
  have hb := B.bytes
  have hr := B.returns
  have hts := atoms_spec (ws := ws_ yX4_init cX4_init 2 none) B.pre
  have hts : ∀ w ∈ lw_all, w.before _ s = true := fun w h => hts w (List.mem_cons_of_mem _ h)
  have hown : s.vm.findClass RX4 = some m.cls := findClass_of_methodNamed B.named
  have hlocks := B.notSynchronized
  have hin : meth.name = "<init>" := (name_of_methodNamed B.named B.method).1
  subst hsz
  have hD := hD0.self (sz := s.heap.size)
  generalize hAe : va_A [(h0, .inr (4, [.null])), (a, .inl (cB, 16, .inl f))] s.heap.size = A at hD ⊢
  have hA : ∀ q : Nat, s.heap.size ≤ q → A q := fun q h => by rw [← hAe]; exact Or.inr h
  have hS : va_S A s.heap s.heap [] := va_S.rf
  have hl := lv_entry ([.ref h0, .ref a]) (n := 2) (Nat.le_of_ble_eq_true rfl)
  rw [lg_entry_eq]
  generalize (lg_sl ([.ref h0, .ref a]) ++ List.replicate (2 - (lg_sl ([.ref h0, .ref a])).length) Slot.unset).toArray = ls at hl ⊢
  have hl : lv_has ls 2 [(0, .ref h0), (1, .ref a)] := hl
  have hP : va_P (dC, dI) vwCl [(h0, .inr (4, [.null])), (a, .inl (cB, 16, .inl f))] s.heap := hP
  refine lv_aload_n hx hb dX4_init_0 rfl (lv_at hl 0 rfl) ?_
  refine lv_aload_n hx hb dX4_init_1 rfl (lv_at hl 1 rfl) ?_
  refine lv_iconst (v := 0) hx hb dX4_init_2 (by decide) ?_
  refine lv_aload_n hx hb dX4_init_3 rfl (lv_at hl 1 rfl) ?_
  refine va_alen (v := 16) hx hb hK hP 1 0 rfl rfl rfl dX4_init_4 ?_
  have hPc := hP.sub (ws' := [(h0, .inr (4, [.null])), (a, .inl (cB, 16, .inl f))]) [0, 1] rfl
  have hDc := hD.sub (ws' := [(h0, .inr (4, [.null])), (a, .inl (cB, 16, .inl f))]) [0, 1] (by decide) rfl
  have hKc := hK.sub (tys' := [(cB, .byte)]) [0] rfl
  have hFc := va_free (wc := [(h0, .inr (4, [.null])), (a, .inl (cB, 16, .inl f))]) hD hS hA [0, 1] rfl
  refine va_callv (va_runI (As := [.ref a, .int 0, .int 16]) (rest := []) ⟨hx, hb, hml, hown, hts⟩ (metX4_init_2 l dC dI h0 a cB f hf s.heap.size) (cwI 3 hts (lw_meth q127) rfl rfl rfl (hts _ q21) (hts _ q125) (hts _ q126) rfl (by decide +kernel) ⟨Nat.le_of_ble_eq_true rfl, Nat.le_of_ble_eq_true rfl⟩) ⟨fun a U g mk q => by obtain ⟨q0, q1, qP, qK, qD⟩ := q; exact ⟨q0, q1, qP, va_K.moved (u := U) (U := U.calling g mk a) (Vm.Alike.refl U.vm) qK, qD⟩, fun U hU hW => ⟨rfl, by rw [hU], by rw [hU]; exact hPc, va_K.moved hW.alike hKc, hDc.weaken (fun _ _ _ _ => trivial)⟩⟩ rfl rfl hl.1 rfl (lv_room (Nat.le_of_ble_eq_true rfl)) dX4_init_5 ⟨Nat.le_of_ble_eq_true rfl, Nat.le_of_ble_eq_true rfl⟩) hS (fun q _ h => hFc q h) hFc (fun u t H1 locs ht hvm hw hB hzz hk1 hS => ?_)
  obtain ⟨qa, ca, hP1, hK1, hD1⟩ := hB
  rw [ht] at hP1
  obtain ⟨hP, hD⟩ := va_join (wr := []) (w1 := [(h0, .inr (4, [.ref qa])), (a, .inl (cB, 16, .inl f)), (qa, .inl (ca, 16, .inl u))]) hP hD [0, 1] [] rfl rfl (by decide) (by decide) hk1 hFc hP1 hD1
  have hK := hK.app ((va_K.moved hvm.symm hK1).sub (tys' := [(ca, .byte)]) [1] rfl)
  generalize H1 = H at hP hS ⊢
  have hP : va_P (dC, dI) vwCl [(h0, .inr (4, [.ref qa])), (a, .inl (cB, 16, .inl f)), (qa, .inl (ca, 16, .inl u))] H := hP
  have hD : va_D A [(h0, .inr (4, [.ref qa])), (a, .inl (cB, 16, .inl f)), (qa, .inl (ca, 16, .inl u))] := hD
  have hK : va_K (dC, dI) vwCl [(cB, .byte), (ca, .byte)] s := hK
  have hP9 := hP.sub (ws' := [(h0, .inr (4, [.ref qa])), (a, .inl (cB, 16, .inl f)), (qa, .inl (ca, 16, .inl u))]) [0, 1, 2] rfl
  have hD9 := hD.sub (ws' := [(h0, .inr (4, [.ref qa])), (a, .inl (cB, 16, .inl f)), (qa, .inl (ca, 16, .inl u))]) [0, 1, 2] (by decide) rfl
  have hK9 := hK.sub (tys' := [(cB, .byte), (ca, .byte)]) [0, 1] rfl
  exact W.vret hx hb hr (fun t ht hW => ⟨⟨u, rfl, hw, qa, ca, by rw [ht]; exact hP9, va_K.moved hW.alike hK9, hD9⟩, hS.F ht⟩) hS.2.2 dX4_init_8
set_option maxHeartbeats 4000000 in
set_option maxRecDepth 100000 in
/-- getKey: the array -/
theorem metX4_getKey (l : Launch) (dC : Nat → ClassId) (dI : Nat → Nat → Nat) (h0 qa : Nat) : Met l yX4_getKey (ws_ yX4_getKey cX4_getKey 1 (some (.array .byte))) ({ frames := 0, cells := 0, slots := 0, locals := 0 }) (va_Pc [.ref h0] (fun U => va_P (dC, dI) vwCl [(h0, .inr (4, [.ref qa]))] U.heap ∧ va_K (dC, dI) vwCl [] U)) (va_Sr (fun _ => True) (fun _ => .ref qa)) 0 0 (fun _ => False) := by
  refine Met.ofW (cc := cX4_getKey) (maxL := 1) (ret := (some (.array .byte))) (by decide) rfl ?_
  intro p e s m args below meth c s₁ B hml hv
  obtain ⟨rfl, hP, hK⟩ := hv
  have hx := B.exec
  have hb := B.bytes
  have hr := B.returns
  have hts := atoms_spec (ws := ws_ yX4_getKey cX4_getKey 1 (some (.array .byte))) B.pre
  have hts : ∀ w ∈ lw_all, w.before _ s = true := fun w h => hts w (List.mem_cons_of_mem _ h)
  have hown : s.vm.findClass RX4 = some m.cls := findClass_of_methodNamed B.named
  have hlocks := B.notSynchronized
  have hl := lv_entry ([.ref h0]) (n := 1) (Nat.le_of_ble_eq_true rfl)
  rw [lg_entry_eq]
  generalize (lg_sl ([.ref h0]) ++ List.replicate (1 - (lg_sl ([.ref h0])).length) Slot.unset).toArray = ls at hl ⊢
  have hl : lv_has ls 1 [(0, .ref h0)] := hl
  refine lv_aload_n hx hb dX4_getKey_0 rfl (lv_at hl 0 rfl) ?_
  refine va_get (D := (dC, dI)) (ci := 4) (v := .ref qa) (C := RX4) (T := TX4) (N := 1) hx hb hts in_X4 hown hK hP 0 rfl rfl 0 (by decide) (hts _ q132) (fun _ h9 => h9) rfl dX4_getKey_1 ?_
  exact W.aret hx hb hr (Or.inr ⟨_, rfl⟩) (Or.inr ⟨_, rfl⟩) (fun t ht hW => ⟨0, rfl, trivial, ht⟩) tk_nil dX4_getKey_4
end
section
/-! TEAEngine -/
set_option maxHeartbeats 4000000 in
set_option maxRecDepth 100000 in
/-- TEAEngine() -/
theorem metX2_init (l : Launch) (dC : Nat → ClassId) (dI : Nat → Nat → Nat) (h0 sz : Nat) : Met l yX2_init (ws_ yX2_init cX2_init 1 none) ({ frames := 1, cells := 0, slots := 0, locals := 12 }) (va_Pc [.ref h0] (fun U => U.heap.size = sz ∧ va_P (dC, dI) vwCl [(h0, .inr (2, [.int 0, .int 0, .int 0, .int 0, .int 0, .int 0]))] U.heap ∧ va_K (dC, dI) vwCl [] U ∧ va_D (fun _ => True) [(h0, .inr (2, [.int 0, .int 0, .int 0, .int 0, .int 0, .int 0]))])) (va_Qv (fun _ : Unit => True) (fun _ t => va_P (dC, dI) vwCl [(h0, .inr (2, [.int 0, .int 0, .int 0, .int 0, .int 0, .int 0]))] t.heap ∧ va_K (dC, dI) vwCl [] t ∧ va_D (va_A [(h0, .inr (2, [.int 0, .int 0, .int 0, .int 0, .int 0, .int 0]))] sz) [(h0, .inr (2, [.int 0, .int 0, .int 0, .int 0, .int 0, .int 0]))]) (va_A [(h0, .inr (2, [.int 0, .int 0, .int 0, .int 0, .int 0, .int 0]))] sz)) 0 0 (va_A [(h0, .inr (2, [.int 0, .int 0, .int 0, .int 0, .int 0, .int 0]))] sz) := by
  refine Met.ofW (cc := cX2_init) (maxL := 1) (ret := none) (by decide) rfl ?_
  intro p e s m args below meth c s₁ B hml hv
  obtain ⟨rfl, hsz, hP, hK, hD0⟩ := hv
  have hx := B.exec
  have hb := B.bytes
  have hr := B.returns
  have hts := atoms_spec (ws := ws_ yX2_init cX2_init 1 none) B.pre
  have hts : ∀ w ∈ lw_all, w.before _ s = true := fun w h => hts w (List.mem_cons_of_mem _ h)
  have hown : s.vm.findClass RX2 = some m.cls := findClass_of_methodNamed B.named
  have hlocks := B.notSynchronized
  have hin : meth.name = "<init>" := (name_of_methodNamed B.named B.method).1
  subst hsz
  have hD := hD0.self (sz := s.heap.size)
  generalize hAe : va_A [(h0, .inr (2, [.int 0, .int 0, .int 0, .int 0, .int 0, .int 0]))] s.heap.size = A at hD ⊢
  have hA : ∀ q : Nat, s.heap.size ≤ q → A q := fun q h => by rw [← hAe]; exact Or.inr h
  have hS : va_S A s.heap s.heap [] := va_S.rf
  have hl := lv_entry ([.ref h0]) (n := 1) (Nat.le_of_ble_eq_true rfl)
  rw [lg_entry_eq]
  generalize (lg_sl ([.ref h0]) ++ List.replicate (1 - (lg_sl ([.ref h0])).length) Slot.unset).toArray = ls at hl ⊢
  have hl : lv_has ls 1 [(0, .ref h0)] := hl
  have hP : va_P (dC, dI) vwCl [(h0, .inr (2, [.int 0, .int 0, .int 0, .int 0, .int 0, .int 0]))] s.heap := hP
  refine lv_aload_n hx hb dX2_init_0 rfl (lv_at hl 0 rfl) ?_
  refine W.objInit hx hb hown (hts _ q77) (hts _ q37) (hts _ q38) rfl (by rw [hml]; exact hl.1) rfl dX2_init_1 (Nat.le_of_ble_eq_true rfl) (Nat.le_of_ble_eq_true rfl) ?_
  refine W.eq (g2 := F0 m 4 ls []) rfl ?_
  refine lv_aload_n hx hb dX2_init_4 rfl (lv_at hl 0 rfl) ?_
  refine lv_iconst (v := 0) hx hb dX2_init_5 (by decide) ?_
  refine va_put (D := (dC, dI)) (ci := 2) (v := .int 0) (ty := .boolean) (C := RX2) (T := TX2) (N := 6) hx hb hts in_X2 tyX2 tyX2_ok nmX2 hown hK hP hD hS 0 rfl rfl 4 (by decide) (hts _ q82) (fun _ h9 => h9) rfl (by decide +kernel) rfl rfl (Nat.le_of_ble_eq_true rfl) dX2_init_6 (fun H locs hP hD hS => ?_)
  have hP : va_P (dC, dI) vwCl [(h0, .inr (2, [.int 0, .int 0, .int 0, .int 0, .int 0, .int 0]))] H := hP
  have hD : va_D A [(h0, .inr (2, [.int 0, .int 0, .int 0, .int 0, .int 0, .int 0]))] := hD
  have hP9 := hP.sub (ws' := [(h0, .inr (2, [.int 0, .int 0, .int 0, .int 0, .int 0, .int 0]))]) [0] rfl
  have hD9 := hD.sub (ws' := [(h0, .inr (2, [.int 0, .int 0, .int 0, .int 0, .int 0, .int 0]))]) [0] (by decide) rfl
  have hK9 := hK.sub (tys' := []) [] rfl
  exact W.vret hx hb hr (fun t ht hW => ⟨⟨(), rfl, trivial, by rw [ht]; exact hP9, va_K.moved hW.alike hK9, hD9⟩, hS.F ht⟩) hS.2.2 dX2_init_9
set_option maxHeartbeats 4000000 in
set_option maxRecDepth 100000 in
/-- setKey: the four words -/
theorem metX2_setKey (l : Launch) (dC : Nat → ClassId) (dI : Nat → Nat → Nat) (h0 a : Nat) (ka kb kc kd ini fe : Int32) (cB : ClassId) (f : Nat → Int32) (sz : Nat) : Met l yX2_setKey (ws_ yX2_setKey cX2_setKey 2 none) ({ frames := 1, cells := 0, slots := 0, locals := 30 }) (va_Pc [.ref h0, .ref a] (fun U => U.heap.size = sz ∧ va_P (dC, dI) vwCl [(h0, .inr (2, [.int ka, .int kb, .int kc, .int kd, .int ini, .int fe])), (a, .inl (cB, 16, .inl f))] U.heap ∧ va_K (dC, dI) vwCl [(cB, .byte)] U ∧ va_D (fun _ => True) [(h0, .inr (2, [.int ka, .int kb, .int kc, .int kd, .int ini, .int fe])), (a, .inl (cB, 16, .inl f))])) (va_Qv (fun _ : Unit => True) (fun _ t => va_P (dC, dI) vwCl [(h0, .inr (2, [.int (tq_w f 0), .int (tq_w f 4), .int (tq_w f 8), .int (tq_w f 12), .int ini, .int fe])), (a, .inl (cB, 16, .inl f))] t.heap ∧ va_K (dC, dI) vwCl [(cB, .byte)] t ∧ va_D (va_A [(h0, .inr (2, [.int ka, .int kb, .int kc, .int kd, .int ini, .int fe])), (a, .inl (cB, 16, .inl f))] sz) [(h0, .inr (2, [.int (tq_w f 0), .int (tq_w f 4), .int (tq_w f 8), .int (tq_w f 12), .int ini, .int fe])), (a, .inl (cB, 16, .inl f))]) (va_A [(h0, .inr (2, [.int ka, .int kb, .int kc, .int kd, .int ini, .int fe])), (a, .inl (cB, 16, .inl f))] sz)) 0 0 (va_A [(h0, .inr (2, [.int ka, .int kb, .int kc, .int kd, .int ini, .int fe])), (a, .inl (cB, 16, .inl f))] sz) := by
  refine Met.ofW (cc := cX2_setKey) (maxL := 2) (ret := none) (by decide) rfl ?_
  intro p e s m args below meth c s₁ B hml hv
  obtain ⟨rfl, hsz, hP, hK, hD0⟩ := hv
  have hx := B.exec
  have hb := B.bytes
  have hr := B.returns
  have hts := atoms_spec (ws := ws_ yX2_setKey cX2_setKey 2 none) B.pre
  have hts : ∀ w ∈ lw_all, w.before _ s = true := fun w h => hts w (List.mem_cons_of_mem _ h)
  have hown : s.vm.findClass RX2 = some m.cls := findClass_of_methodNamed B.named
  have hlocks := B.notSynchronized
  subst hsz
  have hD := hD0.self (sz := s.heap.size)
  generalize hAe : va_A [(h0, .inr (2, [.int ka, .int kb, .int kc, .int kd, .int ini, .int fe])), (a, .inl (cB, 16, .inl f))] s.heap.size = A at hD ⊢
  have hA : ∀ q : Nat, s.heap.size ≤ q → A q := fun q h => by rw [← hAe]; exact Or.inr h
  have hS : va_S A s.heap s.heap [] := va_S.rf
  have hl := lv_entry ([.ref h0, .ref a]) (n := 2) (Nat.le_of_ble_eq_true rfl)
  rw [lg_entry_eq]
  generalize (lg_sl ([.ref h0, .ref a]) ++ List.replicate (2 - (lg_sl ([.ref h0, .ref a])).length) Slot.unset).toArray = ls at hl ⊢
  have hl : lv_has ls 2 [(0, .ref h0), (1, .ref a)] := hl
  have hP : va_P (dC, dI) vwCl [(h0, .inr (2, [.int ka, .int kb, .int kc, .int kd, .int ini, .int fe])), (a, .inl (cB, 16, .inl f))] s.heap := hP
  refine lv_aload_n hx hb dX2_setKey_0 rfl (lv_at hl 1 rfl) ?_
  refine va_alen (v := 16) hx hb hK hP 1 0 rfl rfl rfl dX2_setKey_1 ?_
  refine lv_bipush (v := 16) hx hb dX2_setKey_2 (by decide) ?_
  refine lv_icmp_eq (tgt := 17) hx hb dX2_setKey_4 (by decide) (fun _ => ?_) (fun h9 => absurd rfl h9)
  refine lv_aload_n hx hb dX2_setKey_17 rfl (lv_at hl 0 rfl) ?_
  refine lv_aload_n hx hb dX2_setKey_18 rfl (lv_at hl 0 rfl) ?_
  refine lv_aload_n hx hb dX2_setKey_19 rfl (lv_at hl 1 rfl) ?_
  refine lv_iconst (v := 0) hx hb dX2_setKey_20 (by decide) ?_
  have hPc := hP.sub (ws' := [(a, .inl (cB, 16, .inl f))]) [1] rfl
  have hKc := hK.sub (tys' := [(cB, .byte)]) [0] rfl
  refine vp_callSi (W.runV (As := [.ref a, .int (nI 0)]) (rest := [.ref h0]) ⟨hx, hb, hml, hown, hts⟩ (metX2_bytesToInt l dC dI h0 a cB 16 f 0 (by omega) (by omega)) (cwV 2 hts (lw_V q227 q229 qs3 q19 q230) rfl rfl rfl (by decide +kernel) ⟨Nat.le_of_ble_eq_true rfl, Nat.le_of_ble_eq_true rfl⟩) ⟨fun a U g mk q => by obtain ⟨q0, qP, qK⟩ := q; exact ⟨q0, qP, va_K.moved (u := U) (U := U.calling g mk a) (Vm.Alike.refl U.vm) qK⟩, va_recv hK hP (ci := 2) (q0 := 0) rfl rfl, fun U hU hW => ⟨rfl, by rw [hU]; exact hPc, va_K.moved hW.alike hKc⟩⟩ rfl rfl hl.1 rfl (lv_room (Nat.le_of_ble_eq_true rfl)) dX2_setKey_21 ⟨Nat.le_of_ble_eq_true rfl, Nat.le_of_ble_eq_true rfl⟩) (fun z0 hz0 => ?_)
  subst hz0
  refine va_put (D := (dC, dI)) (ci := 2) (v := .int (tq_w f 0)) (ty := .int) (C := RX2) (T := TX2) (N := 6) hx hb hts in_X2 tyX2 tyX2_ok nmX2 hown hK hP hD hS 0 rfl rfl 0 (by decide) (hts _ q78) (fun _ h9 => h9) rfl (by decide +kernel) rfl rfl (Nat.le_of_ble_eq_true rfl) dX2_setKey_24 (fun H locs hP hD hS => ?_)
  have hP : va_P (dC, dI) vwCl [(h0, .inr (2, [.int (tq_w f 0), .int kb, .int kc, .int kd, .int ini, .int fe])), (a, .inl (cB, 16, .inl f))] H := hP
  have hD : va_D A [(h0, .inr (2, [.int (tq_w f 0), .int kb, .int kc, .int kd, .int ini, .int fe])), (a, .inl (cB, 16, .inl f))] := hD
  refine lv_aload_n hx hb dX2_setKey_27 rfl (lv_at hl 0 rfl) ?_
  refine lv_aload_n hx hb dX2_setKey_28 rfl (lv_at hl 0 rfl) ?_
  refine lv_aload_n hx hb dX2_setKey_29 rfl (lv_at hl 1 rfl) ?_
  refine lv_iconst (v := 4) hx hb dX2_setKey_30 (by decide) ?_
  have hPc := hP.sub (ws' := [(a, .inl (cB, 16, .inl f))]) [1] rfl
  have hKc := hK.sub (tys' := [(cB, .byte)]) [0] rfl
  refine vp_callSi (W.runV (As := [.ref a, .int (nI 4)]) (rest := [.ref h0]) ⟨hx, hb, hml, hown, hts⟩ (metX2_bytesToInt l dC dI h0 a cB 16 f 4 (by omega) (by omega)) (cwV 2 hts (lw_V q227 q229 qs3 q19 q230) rfl rfl rfl (by decide +kernel) ⟨Nat.le_of_ble_eq_true rfl, Nat.le_of_ble_eq_true rfl⟩) ⟨fun a U g mk q => by obtain ⟨q0, qP, qK⟩ := q; exact ⟨q0, qP, va_K.moved (u := U) (U := U.calling g mk a) (Vm.Alike.refl U.vm) qK⟩, va_recv hK hP (ci := 2) (q0 := 0) rfl rfl, fun U hU hW => ⟨rfl, by rw [hU]; exact hPc, va_K.moved hW.alike hKc⟩⟩ rfl rfl hl.1 rfl (lv_room (Nat.le_of_ble_eq_true rfl)) dX2_setKey_31 ⟨Nat.le_of_ble_eq_true rfl, Nat.le_of_ble_eq_true rfl⟩) (fun z1 hz1 => ?_)
  subst hz1
  refine va_put (D := (dC, dI)) (ci := 2) (v := .int (tq_w f 4)) (ty := .int) (C := RX2) (T := TX2) (N := 6) hx hb hts in_X2 tyX2 tyX2_ok nmX2 hown hK hP hD hS 0 rfl rfl 1 (by decide) (hts _ q79) (fun _ h9 => h9) rfl (by decide +kernel) rfl rfl (Nat.le_of_ble_eq_true rfl) dX2_setKey_34 (fun H locs hP hD hS => ?_)
  have hP : va_P (dC, dI) vwCl [(h0, .inr (2, [.int (tq_w f 0), .int (tq_w f 4), .int kc, .int kd, .int ini, .int fe])), (a, .inl (cB, 16, .inl f))] H := hP
  have hD : va_D A [(h0, .inr (2, [.int (tq_w f 0), .int (tq_w f 4), .int kc, .int kd, .int ini, .int fe])), (a, .inl (cB, 16, .inl f))] := hD
  refine lv_aload_n hx hb dX2_setKey_37 rfl (lv_at hl 0 rfl) ?_
  refine lv_aload_n hx hb dX2_setKey_38 rfl (lv_at hl 0 rfl) ?_
  refine lv_aload_n hx hb dX2_setKey_39 rfl (lv_at hl 1 rfl) ?_
  refine lv_bipush (v := 8) hx hb dX2_setKey_40 (by decide) ?_
  have hPc := hP.sub (ws' := [(a, .inl (cB, 16, .inl f))]) [1] rfl
  have hKc := hK.sub (tys' := [(cB, .byte)]) [0] rfl
  refine vp_callSi (W.runV (As := [.ref a, .int (nI 8)]) (rest := [.ref h0]) ⟨hx, hb, hml, hown, hts⟩ (metX2_bytesToInt l dC dI h0 a cB 16 f 8 (by omega) (by omega)) (cwV 2 hts (lw_V q227 q229 qs3 q19 q230) rfl rfl rfl (by decide +kernel) ⟨Nat.le_of_ble_eq_true rfl, Nat.le_of_ble_eq_true rfl⟩) ⟨fun a U g mk q => by obtain ⟨q0, qP, qK⟩ := q; exact ⟨q0, qP, va_K.moved (u := U) (U := U.calling g mk a) (Vm.Alike.refl U.vm) qK⟩, va_recv hK hP (ci := 2) (q0 := 0) rfl rfl, fun U hU hW => ⟨rfl, by rw [hU]; exact hPc, va_K.moved hW.alike hKc⟩⟩ rfl rfl hl.1 rfl (lv_room (Nat.le_of_ble_eq_true rfl)) dX2_setKey_42 ⟨Nat.le_of_ble_eq_true rfl, Nat.le_of_ble_eq_true rfl⟩) (fun z2 hz2 => ?_)
  subst hz2
  refine va_put (D := (dC, dI)) (ci := 2) (v := .int (tq_w f 8)) (ty := .int) (C := RX2) (T := TX2) (N := 6) hx hb hts in_X2 tyX2 tyX2_ok nmX2 hown hK hP hD hS 0 rfl rfl 2 (by decide) (hts _ q80) (fun _ h9 => h9) rfl (by decide +kernel) rfl rfl (Nat.le_of_ble_eq_true rfl) dX2_setKey_45 (fun H locs hP hD hS => ?_)
  have hP : va_P (dC, dI) vwCl [(h0, .inr (2, [.int (tq_w f 0), .int (tq_w f 4), .int (tq_w f 8), .int kd, .int ini, .int fe])), (a, .inl (cB, 16, .inl f))] H := hP
  have hD : va_D A [(h0, .inr (2, [.int (tq_w f 0), .int (tq_w f 4), .int (tq_w f 8), .int kd, .int ini, .int fe])), (a, .inl (cB, 16, .inl f))] := hD
  refine lv_aload_n hx hb dX2_setKey_48 rfl (lv_at hl 0 rfl) ?_
  refine lv_aload_n hx hb dX2_setKey_49 rfl (lv_at hl 0 rfl) ?_
  refine lv_aload_n hx hb dX2_setKey_50 rfl (lv_at hl 1 rfl) ?_
  refine lv_bipush (v := 12) hx hb dX2_setKey_51 (by decide) ?_
  have hPc := hP.sub (ws' := [(a, .inl (cB, 16, .inl f))]) [1] rfl
  have hKc := hK.sub (tys' := [(cB, .byte)]) [0] rfl
  refine vp_callSi (W.runV (As := [.ref a, .int (nI 12)]) (rest := [.ref h0]) ⟨hx, hb, hml, hown, hts⟩ (metX2_bytesToInt l dC dI h0 a cB 16 f 12 (by omega) (by omega)) (cwV 2 hts (lw_V q227 q229 qs3 q19 q230) rfl rfl rfl (by decide +kernel) ⟨Nat.le_of_ble_eq_true rfl, Nat.le_of_ble_eq_true rfl⟩) ⟨fun a U g mk q => by obtain ⟨q0, qP, qK⟩ := q; exact ⟨q0, qP, va_K.moved (u := U) (U := U.calling g mk a) (Vm.Alike.refl U.vm) qK⟩, va_recv hK hP (ci := 2) (q0 := 0) rfl rfl, fun U hU hW => ⟨rfl, by rw [hU]; exact hPc, va_K.moved hW.alike hKc⟩⟩ rfl rfl hl.1 rfl (lv_room (Nat.le_of_ble_eq_true rfl)) dX2_setKey_53 ⟨Nat.le_of_ble_eq_true rfl, Nat.le_of_ble_eq_true rfl⟩) (fun z3 hz3 => ?_)
  subst hz3
  refine va_put (D := (dC, dI)) (ci := 2) (v := .int (tq_w f 12)) (ty := .int) (C := RX2) (T := TX2) (N := 6) hx hb hts in_X2 tyX2 tyX2_ok nmX2 hown hK hP hD hS 0 rfl rfl 3 (by decide) (hts _ q81) (fun _ h9 => h9) rfl (by decide +kernel) rfl rfl (Nat.le_of_ble_eq_true rfl) dX2_setKey_56 (fun H locs hP hD hS => ?_)
  have hP : va_P (dC, dI) vwCl [(h0, .inr (2, [.int (tq_w f 0), .int (tq_w f 4), .int (tq_w f 8), .int (tq_w f 12), .int ini, .int fe])), (a, .inl (cB, 16, .inl f))] H := hP
  have hD : va_D A [(h0, .inr (2, [.int (tq_w f 0), .int (tq_w f 4), .int (tq_w f 8), .int (tq_w f 12), .int ini, .int fe])), (a, .inl (cB, 16, .inl f))] := hD
  have hP9 := hP.sub (ws' := [(h0, .inr (2, [.int (tq_w f 0), .int (tq_w f 4), .int (tq_w f 8), .int (tq_w f 12), .int ini, .int fe])), (a, .inl (cB, 16, .inl f))]) [0, 1] rfl
  have hD9 := hD.sub (ws' := [(h0, .inr (2, [.int (tq_w f 0), .int (tq_w f 4), .int (tq_w f 8), .int (tq_w f 12), .int ini, .int fe])), (a, .inl (cB, 16, .inl f))]) [0, 1] (by decide) rfl
  have hK9 := hK.sub (tys' := [(cB, .byte)]) [0] rfl
  exact W.vret hx hb hr (fun t ht hW => ⟨⟨(), rfl, trivial, by rw [ht]; exact hP9, va_K.moved hW.alike hK9, hD9⟩, hS.F ht⟩) hS.2.2 dX2_setKey_59
set_option maxHeartbeats 4000000 in
set_option maxRecDepth 100000 in
/-- init: the key taken, the direction noted -/
theorem metX2_init_2 (l : Launch) (dC : Nat → ClassId) (dI : Nat → Nat → Nat) (h0 k0 a : Nat) (ka kb kc kd ini fe en : Int32) (hen : en = 0 ∨ en = 1) (cB : ClassId) (f : Nat → Int32) (sz : Nat) : Met l yX2_init_2 (ws_ yX2_init_2 cX2_init_2 4 none) ({ frames := 2, cells := 0, slots := 0, locals := 60 }) (va_Pc [.ref h0, .int en, .ref k0] (fun U => U.heap.size = sz ∧ va_P (dC, dI) vwCl [(h0, .inr (2, [.int ka, .int kb, .int kc, .int kd, .int ini, .int fe])), (k0, .inr (4, [.ref a])), (a, .inl (cB, 16, .inl f))] U.heap ∧ va_K (dC, dI) vwCl [(cB, .byte)] U ∧ va_D (fun _ => True) [(h0, .inr (2, [.int ka, .int kb, .int kc, .int kd, .int ini, .int fe])), (k0, .inr (4, [.ref a])), (a, .inl (cB, 16, .inl f))])) (va_Qv (fun _ : Unit => True) (fun _ t => va_P (dC, dI) vwCl [(h0, .inr (2, [.int (tq_w f 0), .int (tq_w f 4), .int (tq_w f 8), .int (tq_w f 12), .int 1, .int en])), (k0, .inr (4, [.ref a])), (a, .inl (cB, 16, .inl f))] t.heap ∧ va_K (dC, dI) vwCl [(cB, .byte)] t ∧ va_D (va_A [(h0, .inr (2, [.int ka, .int kb, .int kc, .int kd, .int ini, .int fe])), (k0, .inr (4, [.ref a])), (a, .inl (cB, 16, .inl f))] sz) [(h0, .inr (2, [.int (tq_w f 0), .int (tq_w f 4), .int (tq_w f 8), .int (tq_w f 12), .int 1, .int en])), (k0, .inr (4, [.ref a])), (a, .inl (cB, 16, .inl f))]) (va_A [(h0, .inr (2, [.int ka, .int kb, .int kc, .int kd, .int ini, .int fe])), (k0, .inr (4, [.ref a])), (a, .inl (cB, 16, .inl f))] sz)) 0 0 (va_A [(h0, .inr (2, [.int ka, .int kb, .int kc, .int kd, .int ini, .int fe])), (k0, .inr (4, [.ref a])), (a, .inl (cB, 16, .inl f))] sz) := by
  refine Met.ofW (cc := cX2_init_2) (maxL := 4) (ret := none) (by decide) rfl ?_
  intro p e s m args below meth c s₁ B hml hv
  obtain ⟨rfl, hsz, hP, hK, hD0⟩ := hv
  have hx := B.exec
  have hb := B.bytes
  have hr := B.returns
  have hts := atoms_spec (ws := ws_ yX2_init_2 cX2_init_2 4 none) B.pre
  have hts : ∀ w ∈ lw_all, w.before _ s = true := fun w h => hts w (List.mem_cons_of_mem _ h)
  have hown : s.vm.findClass RX2 = some m.cls := findClass_of_methodNamed B.named
  have hlocks := B.notSynchronized
  subst hsz
  have hD := hD0.self (sz := s.heap.size)
  generalize hAe : va_A [(h0, .inr (2, [.int ka, .int kb, .int kc, .int kd, .int ini, .int fe])), (k0, .inr (4, [.ref a])), (a, .inl (cB, 16, .inl f))] s.heap.size = A at hD ⊢
  have hA : ∀ q : Nat, s.heap.size ≤ q → A q := fun q h => by rw [← hAe]; exact Or.inr h
  have hS : va_S A s.heap s.heap [] := va_S.rf
  have hl := lv_entry ([.ref h0, .int en, .ref k0]) (n := 4) (Nat.le_of_ble_eq_true rfl)
  rw [lg_entry_eq]
  generalize (lg_sl ([.ref h0, .int en, .ref k0]) ++ List.replicate (4 - (lg_sl ([.ref h0, .int en, .ref k0])).length) Slot.unset).toArray = ls at hl ⊢
  have hl : lv_has ls 4 [(0, .ref h0), (1, .int en), (2, .ref k0)] := hl
  have hP : va_P (dC, dI) vwCl [(h0, .inr (2, [.int ka, .int kb, .int kc, .int kd, .int ini, .int fe])), (k0, .inr (4, [.ref a])), (a, .inl (cB, 16, .inl f))] s.heap := hP
  refine lv_aload_n hx hb dX2_init_2_0 rfl (lv_at hl 2 rfl) ?_
  refine va_instS hx hb hown (hts _ q149) (hK.1 4 _ rfl).2 (va_recv hK hP (ci := 4) (q0 := 1) rfl rfl) dX2_init_2_1 ?_
  refine lv_if_ne (tgt := 17) hx hb dX2_init_2_4 (by decide) (fun _ => ?_) (fun h9 => absurd h9 (by decide))
  refine lv_aload_n hx hb dX2_init_2_17 rfl (lv_at hl 0 rfl) ?_
  refine lv_iload_n hx hb dX2_init_2_18 rfl (lv_at hl 1 rfl) ?_
  refine va_put (D := (dC, dI)) (ci := 2) (v := .int en) (ty := .boolean) (C := RX2) (T := TX2) (N := 6) hx hb hts in_X2 tyX2 tyX2_ok nmX2 hown hK hP hD hS 0 rfl rfl 5 (by decide) (hts _ q83) (fun _ h9 => h9) rfl (by decide +kernel) (by rcases hen with rfl | rfl <;> rfl) (by rcases hen with rfl | rfl <;> rfl) (Nat.le_of_ble_eq_true rfl) dX2_init_2_19 (fun H locs hP hD hS => ?_)
  have hP : va_P (dC, dI) vwCl [(h0, .inr (2, [.int ka, .int kb, .int kc, .int kd, .int ini, .int en])), (k0, .inr (4, [.ref a])), (a, .inl (cB, 16, .inl f))] H := hP
  have hD : va_D A [(h0, .inr (2, [.int ka, .int kb, .int kc, .int kd, .int ini, .int en])), (k0, .inr (4, [.ref a])), (a, .inl (cB, 16, .inl f))] := hD
  refine lv_aload_n hx hb dX2_init_2_22 rfl (lv_at hl 0 rfl) ?_
  refine lv_iconst (v := 1) hx hb dX2_init_2_23 (by decide) ?_
  refine va_put (D := (dC, dI)) (ci := 2) (v := .int 1) (ty := .boolean) (C := RX2) (T := TX2) (N := 6) hx hb hts in_X2 tyX2 tyX2_ok nmX2 hown hK hP hD hS 0 rfl rfl 4 (by decide) (hts _ q82) (fun _ h9 => h9) rfl (by decide +kernel) rfl rfl (Nat.le_of_ble_eq_true rfl) dX2_init_2_24 (fun H locs hP hD hS => ?_)
  have hP : va_P (dC, dI) vwCl [(h0, .inr (2, [.int ka, .int kb, .int kc, .int kd, .int 1, .int en])), (k0, .inr (4, [.ref a])), (a, .inl (cB, 16, .inl f))] H := hP
  have hD : va_D A [(h0, .inr (2, [.int ka, .int kb, .int kc, .int kd, .int 1, .int en])), (k0, .inr (4, [.ref a])), (a, .inl (cB, 16, .inl f))] := hD
  refine lv_aload_n hx hb dX2_init_2_27 rfl (lv_at hl 2 rfl) ?_
  refine va_castS hx hb hown (hts _ q149) (hK.1 4 _ rfl).2 (va_recv hK hP (ci := 4) (q0 := 1) rfl rfl) dX2_init_2_28 ?_
  refine lv_astore_n (lv' := [(3, .ref k0), (0, .ref h0), (1, .int en), (2, .ref k0)]) hx hb dX2_init_2_31 rfl hl (by decide) rfl (fun ls hl => ?_)
  refine lv_aload_n hx hb dX2_init_2_32 rfl (lv_at hl 1 rfl) ?_
  refine lv_aload_n hx hb dX2_init_2_33 rfl (lv_at hl 0 rfl) ?_
  have hPc := hP.sub (ws' := [(k0, .inr (4, [.ref a]))]) [1] rfl
  have hKc := hK.sub (tys' := []) [] rfl
  refine va_csr (W.runV (As := []) (rest := [.ref h0]) ⟨hx, hb, hml, hown, hts⟩ (metX4_getKey l dC dI k0 a) (cwV 0 hts (lw_V q218 q219 q220 q21 q221) rfl rfl rfl (by decide +kernel) ⟨Nat.le_of_ble_eq_true rfl, Nat.le_of_ble_eq_true rfl⟩) ⟨fun a U g mk q => by obtain ⟨q0, qP, qK⟩ := q; exact ⟨q0, qP, va_K.moved (u := U) (U := U.calling g mk a) (Vm.Alike.refl U.vm) qK⟩, va_recv hK hP (ci := 4) (q0 := 1) rfl rfl, fun U hU hW => ⟨rfl, by rw [hU]; exact hPc, va_K.moved hW.alike hKc⟩⟩ rfl rfl hl.1 rfl (lv_room (Nat.le_of_ble_eq_true rfl)) dX2_init_2_34 ⟨Nat.le_of_ble_eq_true rfl, Nat.le_of_ble_eq_true rfl⟩) (fun _ _ => ?_)
  have hPc := hP.sub (ws' := [(h0, .inr (2, [.int ka, .int kb, .int kc, .int kd, .int 1, .int en])), (a, .inl (cB, 16, .inl f))]) [0, 2] rfl
  have hDc := hD.sub (ws' := [(h0, .inr (2, [.int ka, .int kb, .int kc, .int kd, .int 1, .int en])), (a, .inl (cB, 16, .inl f))]) [0, 2] (by decide) rfl
  have hKc := hK.sub (tys' := [(cB, .byte)]) [0] rfl
  have hFc := va_free (wc := [(h0, .inr (2, [.int ka, .int kb, .int kc, .int kd, .int 1, .int en])), (a, .inl (cB, 16, .inl f))]) hD hS hA [0, 2] rfl
  refine va_callv (va_runV (As := [.ref a]) (rest := []) ⟨hx, hb, hml, hown, hts⟩ (metX2_setKey l dC dI h0 a ka kb kc kd 1 en cB f H.size) (cwV 1 hts (lw_V q222 q224 qs2 q19 q225) rfl rfl rfl (by decide +kernel) ⟨Nat.le_of_ble_eq_true rfl, Nat.le_of_ble_eq_true rfl⟩) ⟨fun a U g mk q => by obtain ⟨q0, q1, qP, qK, qD⟩ := q; exact ⟨q0, q1, qP, va_K.moved (u := U) (U := U.calling g mk a) (Vm.Alike.refl U.vm) qK, qD⟩, va_recv hK hP (ci := 2) (q0 := 0) rfl rfl, fun U hU hW => ⟨rfl, by rw [hU], by rw [hU]; exact hPc, va_K.moved hW.alike hKc, hDc.weaken (fun _ _ _ _ => trivial)⟩⟩ rfl rfl hl.1 rfl (lv_room (Nat.le_of_ble_eq_true rfl)) dX2_init_2_37 ⟨Nat.le_of_ble_eq_true rfl, Nat.le_of_ble_eq_true rfl⟩) hS (fun q _ h => hFc q h) hFc (fun _u t H1 locs ht hvm hw hB hzz hk1 hS => ?_)
  obtain ⟨hP1, hK1, hD1⟩ := hB
  rw [ht] at hP1
  obtain ⟨hP, hD⟩ := va_join (wr := [(k0, .inr (4, [.ref a]))]) (w1 := [(h0, .inr (2, [.int (tq_w f 0), .int (tq_w f 4), .int (tq_w f 8), .int (tq_w f 12), .int 1, .int en])), (a, .inl (cB, 16, .inl f))]) hP hD [0, 2] [1] rfl rfl (by decide) (by decide) hk1 hFc hP1 hD1
  generalize H1 = H at hP hS ⊢
  have hP : va_P (dC, dI) vwCl [(k0, .inr (4, [.ref a])), (h0, .inr (2, [.int (tq_w f 0), .int (tq_w f 4), .int (tq_w f 8), .int (tq_w f 12), .int 1, .int en])), (a, .inl (cB, 16, .inl f))] H := hP
  have hD : va_D A [(k0, .inr (4, [.ref a])), (h0, .inr (2, [.int (tq_w f 0), .int (tq_w f 4), .int (tq_w f 8), .int (tq_w f 12), .int 1, .int en])), (a, .inl (cB, 16, .inl f))] := hD
  have hP9 := hP.sub (ws' := [(h0, .inr (2, [.int (tq_w f 0), .int (tq_w f 4), .int (tq_w f 8), .int (tq_w f 12), .int 1, .int en])), (k0, .inr (4, [.ref a])), (a, .inl (cB, 16, .inl f))]) [1, 0, 2] rfl
  have hD9 := hD.sub (ws' := [(h0, .inr (2, [.int (tq_w f 0), .int (tq_w f 4), .int (tq_w f 8), .int (tq_w f 12), .int 1, .int en])), (k0, .inr (4, [.ref a])), (a, .inl (cB, 16, .inl f))]) [1, 0, 2] (by decide) rfl
  have hK9 := hK.sub (tys' := [(cB, .byte)]) [0] rfl
  exact W.vret hx hb hr (fun t ht hW => ⟨⟨(), rfl, trivial, by rw [ht]; exact hP9, va_K.moved hW.alike hK9, hD9⟩, hS.F ht⟩) hS.2.2 dX2_init_2_40
set_option maxHeartbeats 4000000 in
set_option maxRecDepth 100000 in
/-- the cycles: n are left -/
theorem lpX2_enc {p : Program} {l : Launch} {e : Env} {R : Room} {s : State} {m : MethodId} {args : Array Value} {below : List Frame} {meth : Method} {c : Code} {cells slots : Nat} {Q : State → Prop} {dC : Nat → ClassId} {dI : Nat → Nat → Nat} {H : Heap} {locs : List Loc} {h0 qi qo : Nat} {ka kb kc kd ini fe : Int32} {cI cO : ClassId} {fi fo : Nat → Int32} {X Y : Int32} (hx : p.tables.exec = Jvm.exec) (hb : c.code = cX2_encryptBlock) (hown : s.vm.findClass RX2 = some m.cls) (hts : ∀ w ∈ lw_all, w.before args s = true) (hK : va_K (dC, dI) vwCl [(cI, .byte), (cO, .byte)] s) (hP : va_P (dC, dI) vwCl [(h0, .inr (2, [.int ka, .int kb, .int kc, .int kd, .int ini, .int fe])), (qi, .inl (cI, 8, .inl fi)), (qo, .inl (cO, 8, .inl fo))] H) (kk : ∀ ls : Array Slot, lv_has ls 9 [(0, .ref h0), (3, .ref qo), (4, .int (nI 0)), (5, .int X), (6, .int Y)] → W p l e R s m args below meth c H locs cells slots Q (F0 m 104 ls [])) :
    ∀ (n i : Nat) (x y sm : Int32), i + n = 32 → tq_tE ka kb kc kd n sm x y = (X, Y) → ∀ ls : Array Slot, lv_has ls 9 [(0, .ref h0), (3, .ref qo), (4, .int (nI 0)), (5, .int x), (6, .int y), (7, .int sm), (8, .int (nI i))] → W p l e R s m args below meth c H locs cells slots Q (F0 m 24 ls []) := by
  intro n
  induction n with
  | zero =>
    intro i x y sm hi hv ls hl
    obtain rfl : i = 32 := by omega
    have hv : (x, y) = (X, Y) := hv
    obtain ⟨rfl, rfl⟩ := Prod.mk.inj hv
    refine lv_iload hx hb dX2_encryptBlock_24 (lv_at hl 6 rfl) ?_
    refine lv_bipush (v := 32) hx hb dX2_encryptBlock_26 (by decide) ?_
    exact lv_icmp_eq (tgt := 104) hx hb dX2_encryptBlock_28 (by decide) (fun _ => kk ls (lv_sub hl [0, 1, 2, 3, 4] rfl)) (fun h9 => absurd (by decide +kernel) h9)
  | succ n ih =>
    intro i x y sm hi hv ls hl
    refine lv_iload hx hb dX2_encryptBlock_24 (lv_at hl 6 rfl) ?_
    refine lv_bipush (v := 32) hx hb dX2_encryptBlock_26 (by decide) ?_
    refine lv_icmp_eq (tgt := 104) hx hb dX2_encryptBlock_28 (by decide) (fun h9 => absurd ((nI_eq (by omega) (by omega)).mp (show nI i = nI 32 from h9)) (by omega)) (fun _ => ?_)
    refine lv_iload hx hb dX2_encryptBlock_31 (lv_at hl 5 rfl) ?_
    refine lv_ldc (v := 1640531527) hx hb hown (hts _ q317) dX2_encryptBlock_33 ?_
    refine lv_isub hx hb dX2_encryptBlock_35 ?_
    refine tk_as (sm + (-1640531527)) (tq_sm sm) ?_
    refine lv_topi (fun s1 es1 => ?_)
    refine lv_istore (lv' := [(7, .int s1), (0, .ref h0), (3, .ref qo), (4, .int (nI 0)), (5, .int x), (6, .int y), (8, .int (nI i))]) hx hb dX2_encryptBlock_36 hl (by decide) rfl (fun ls hl => ?_)
    refine lv_iload hx hb dX2_encryptBlock_38 (lv_at hl 4 rfl) ?_
    refine lv_iload hx hb dX2_encryptBlock_40 (lv_at hl 5 rfl) ?_
    refine lv_iconst (v := 4) hx hb dX2_encryptBlock_42 (by decide) ?_
    refine lv_ishl hx hb dX2_encryptBlock_43 ?_
    refine lv_aload_n hx hb dX2_encryptBlock_44 rfl (lv_at hl 1 rfl) ?_
    refine va_get (D := (dC, dI)) (ci := 2) (v := .int ka) (C := RX2) (T := TX2) (N := 6) hx hb hts in_X2 hown hK hP 0 rfl rfl 0 (by decide) (hts _ q78) (fun _ h9 => h9) rfl dX2_encryptBlock_45 ?_
    refine lv_iadd hx hb dX2_encryptBlock_48 ?_
    refine lv_iload hx hb dX2_encryptBlock_49 (lv_at hl 5 rfl) ?_
    refine lv_iload hx hb dX2_encryptBlock_51 (lv_at hl 0 rfl) ?_
    refine lv_iadd hx hb dX2_encryptBlock_53 ?_
    refine lv_ixor hx hb dX2_encryptBlock_54 ?_
    refine lv_iload hx hb dX2_encryptBlock_55 (lv_at hl 5 rfl) ?_
    refine lv_iconst (v := 5) hx hb dX2_encryptBlock_57 (by decide) ?_
    refine lv_iushr (v := (y.toUInt32 >>> ((5 : Int32).toUInt32 &&& Int32.toUInt32 31)).toInt32) hx hb dX2_encryptBlock_58 rfl ?_
    refine lv_aload_n hx hb dX2_encryptBlock_59 rfl (lv_at hl 1 rfl) ?_
    refine va_get (D := (dC, dI)) (ci := 2) (v := .int kb) (C := RX2) (T := TX2) (N := 6) hx hb hts in_X2 hown hK hP 0 rfl rfl 1 (by decide) (hts _ q79) (fun _ h9 => h9) rfl dX2_encryptBlock_60 ?_
    refine lv_iadd hx hb dX2_encryptBlock_63 ?_
    refine lv_ixor hx hb dX2_encryptBlock_64 ?_
    refine lv_iadd hx hb dX2_encryptBlock_65 ?_
    refine lv_topi (fun x1 ex1 => ?_)
    refine lv_istore (lv' := [(5, .int x1), (7, .int s1), (0, .ref h0), (3, .ref qo), (4, .int (nI 0)), (6, .int y), (8, .int (nI i))]) hx hb dX2_encryptBlock_66 hl (by decide) rfl (fun ls hl => ?_)
    refine lv_iload hx hb dX2_encryptBlock_68 (lv_at hl 5 rfl) ?_
    refine lv_iload hx hb dX2_encryptBlock_70 (lv_at hl 0 rfl) ?_
    refine lv_iconst (v := 4) hx hb dX2_encryptBlock_72 (by decide) ?_
    refine lv_ishl hx hb dX2_encryptBlock_73 ?_
    refine lv_aload_n hx hb dX2_encryptBlock_74 rfl (lv_at hl 2 rfl) ?_
    refine va_get (D := (dC, dI)) (ci := 2) (v := .int kc) (C := RX2) (T := TX2) (N := 6) hx hb hts in_X2 hown hK hP 0 rfl rfl 2 (by decide) (hts _ q80) (fun _ h9 => h9) rfl dX2_encryptBlock_75 ?_
    refine lv_iadd hx hb dX2_encryptBlock_78 ?_
    refine lv_iload hx hb dX2_encryptBlock_79 (lv_at hl 0 rfl) ?_
    refine lv_iload hx hb dX2_encryptBlock_81 (lv_at hl 1 rfl) ?_
    refine lv_iadd hx hb dX2_encryptBlock_83 ?_
    refine lv_ixor hx hb dX2_encryptBlock_84 ?_
    refine lv_iload hx hb dX2_encryptBlock_85 (lv_at hl 0 rfl) ?_
    refine lv_iconst (v := 5) hx hb dX2_encryptBlock_87 (by decide) ?_
    refine lv_iushr (v := (x1.toUInt32 >>> ((5 : Int32).toUInt32 &&& Int32.toUInt32 31)).toInt32) hx hb dX2_encryptBlock_88 rfl ?_
    refine lv_aload_n hx hb dX2_encryptBlock_89 rfl (lv_at hl 2 rfl) ?_
    refine va_get (D := (dC, dI)) (ci := 2) (v := .int kd) (C := RX2) (T := TX2) (N := 6) hx hb hts in_X2 hown hK hP 0 rfl rfl 3 (by decide) (hts _ q81) (fun _ h9 => h9) rfl dX2_encryptBlock_90 ?_
    refine lv_iadd hx hb dX2_encryptBlock_93 ?_
    refine lv_ixor hx hb dX2_encryptBlock_94 ?_
    refine lv_iadd hx hb dX2_encryptBlock_95 ?_
    refine lv_topi (fun y1 ey1 => ?_)
    refine lv_istore (lv' := [(6, .int y1), (5, .int x1), (7, .int s1), (0, .ref h0), (3, .ref qo), (4, .int (nI 0)), (8, .int (nI i))]) hx hb dX2_encryptBlock_96 hl (by decide) rfl (fun ls hl => ?_)
    refine lv_iinc (v := nI (i + 1)) (lv' := [(8, .int (nI (i + 1))), (6, .int y1), (5, .int x1), (7, .int s1), (0, .ref h0), (3, .ref qo), (4, .int (nI 0))]) hx hb dX2_encryptBlock_98 hl (k := 6) rfl (tk_inc i) (by decide) rfl (fun ls hl => ?_)
    refine lv_goto (tgt := 24) hx hb dX2_encryptBlock_101 (by decide) ?_
    exact ih (i + 1) x1 y1 s1 (by omega) (by rw [← hv, ey1, ex1, es1]; rfl) ls (lv_sub hl [4, 5, 6, 2, 1, 3, 0] rfl)
set_option maxHeartbeats 4000000 in
set_option maxRecDepth 100000 in
/-- the cycles: n are left -/
theorem lpX2_dec {p : Program} {l : Launch} {e : Env} {R : Room} {s : State} {m : MethodId} {args : Array Value} {below : List Frame} {meth : Method} {c : Code} {cells slots : Nat} {Q : State → Prop} {dC : Nat → ClassId} {dI : Nat → Nat → Nat} {H : Heap} {locs : List Loc} {h0 qi qo : Nat} {ka kb kc kd ini fe : Int32} {cI cO : ClassId} {fi fo : Nat → Int32} {X Y : Int32} (hx : p.tables.exec = Jvm.exec) (hb : c.code = cX2_decryptBlock) (hown : s.vm.findClass RX2 = some m.cls) (hts : ∀ w ∈ lw_all, w.before args s = true) (hK : va_K (dC, dI) vwCl [(cI, .byte), (cO, .byte)] s) (hP : va_P (dC, dI) vwCl [(h0, .inr (2, [.int ka, .int kb, .int kc, .int kd, .int ini, .int fe])), (qi, .inl (cI, 8, .inl fi)), (qo, .inl (cO, 8, .inl fo))] H) (kk : ∀ ls : Array Slot, lv_has ls 9 [(0, .ref h0), (3, .ref qo), (4, .int (nI 0)), (5, .int X), (6, .int Y)] → W p l e R s m args below meth c H locs cells slots Q (F0 m 105 ls [])) :
    ∀ (n i : Nat) (x y sm : Int32), i + n = 32 → tq_tD ka kb kc kd n sm x y = (X, Y) → ∀ ls : Array Slot, lv_has ls 9 [(0, .ref h0), (3, .ref qo), (4, .int (nI 0)), (5, .int x), (6, .int y), (7, .int sm), (8, .int (nI i))] → W p l e R s m args below meth c H locs cells slots Q (F0 m 25 ls []) := by
  intro n
  induction n with
  | zero =>
    intro i x y sm hi hv ls hl
    obtain rfl : i = 32 := by omega
    have hv : (x, y) = (X, Y) := hv
    obtain ⟨rfl, rfl⟩ := Prod.mk.inj hv
    refine lv_iload hx hb dX2_decryptBlock_25 (lv_at hl 6 rfl) ?_
    refine lv_bipush (v := 32) hx hb dX2_decryptBlock_27 (by decide) ?_
    exact lv_icmp_eq (tgt := 105) hx hb dX2_decryptBlock_29 (by decide) (fun _ => kk ls (lv_sub hl [0, 1, 2, 3, 4] rfl)) (fun h9 => absurd (by decide +kernel) h9)
  | succ n ih =>
    intro i x y sm hi hv ls hl
    refine lv_iload hx hb dX2_decryptBlock_25 (lv_at hl 6 rfl) ?_
    refine lv_bipush (v := 32) hx hb dX2_decryptBlock_27 (by decide) ?_
    refine lv_icmp_eq (tgt := 105) hx hb dX2_decryptBlock_29 (by decide) (fun h9 => absurd ((nI_eq (by omega) (by omega)).mp (show nI i = nI 32 from h9)) (by omega)) (fun _ => ?_)
    refine lv_iload hx hb dX2_decryptBlock_32 (lv_at hl 4 rfl) ?_
    refine lv_iload hx hb dX2_decryptBlock_34 (lv_at hl 3 rfl) ?_
    refine lv_iconst (v := 4) hx hb dX2_decryptBlock_36 (by decide) ?_
    refine lv_ishl hx hb dX2_decryptBlock_37 ?_
    refine lv_aload_n hx hb dX2_decryptBlock_38 rfl (lv_at hl 0 rfl) ?_
    refine va_get (D := (dC, dI)) (ci := 2) (v := .int kc) (C := RX2) (T := TX2) (N := 6) hx hb hts in_X2 hown hK hP 0 rfl rfl 2 (by decide) (hts _ q80) (fun _ h9 => h9) rfl dX2_decryptBlock_39 ?_
    refine lv_iadd hx hb dX2_decryptBlock_42 ?_
    refine lv_iload hx hb dX2_decryptBlock_43 (lv_at hl 3 rfl) ?_
    refine lv_iload hx hb dX2_decryptBlock_45 (lv_at hl 5 rfl) ?_
    refine lv_iadd hx hb dX2_decryptBlock_47 ?_
    refine lv_ixor hx hb dX2_decryptBlock_48 ?_
    refine lv_iload hx hb dX2_decryptBlock_49 (lv_at hl 3 rfl) ?_
    refine lv_iconst (v := 5) hx hb dX2_decryptBlock_51 (by decide) ?_
    refine lv_iushr (v := (x.toUInt32 >>> ((5 : Int32).toUInt32 &&& Int32.toUInt32 31)).toInt32) hx hb dX2_decryptBlock_52 rfl ?_
    refine lv_aload_n hx hb dX2_decryptBlock_53 rfl (lv_at hl 0 rfl) ?_
    refine va_get (D := (dC, dI)) (ci := 2) (v := .int kd) (C := RX2) (T := TX2) (N := 6) hx hb hts in_X2 hown hK hP 0 rfl rfl 3 (by decide) (hts _ q81) (fun _ h9 => h9) rfl dX2_decryptBlock_54 ?_
    refine lv_iadd hx hb dX2_decryptBlock_57 ?_
    refine lv_ixor hx hb dX2_decryptBlock_58 ?_
    refine lv_isub hx hb dX2_decryptBlock_59 ?_
    refine lv_topi (fun y1 ey1 => ?_)
    refine lv_istore (lv' := [(6, .int y1), (0, .ref h0), (3, .ref qo), (4, .int (nI 0)), (5, .int x), (7, .int sm), (8, .int (nI i))]) hx hb dX2_decryptBlock_60 hl (by decide) rfl (fun ls hl => ?_)
    refine lv_iload hx hb dX2_decryptBlock_62 (lv_at hl 4 rfl) ?_
    refine lv_iload hx hb dX2_decryptBlock_64 (lv_at hl 0 rfl) ?_
    refine lv_iconst (v := 4) hx hb dX2_decryptBlock_66 (by decide) ?_
    refine lv_ishl hx hb dX2_decryptBlock_67 ?_
    refine lv_aload_n hx hb dX2_decryptBlock_68 rfl (lv_at hl 1 rfl) ?_
    refine va_get (D := (dC, dI)) (ci := 2) (v := .int ka) (C := RX2) (T := TX2) (N := 6) hx hb hts in_X2 hown hK hP 0 rfl rfl 0 (by decide) (hts _ q78) (fun _ h9 => h9) rfl dX2_decryptBlock_69 ?_
    refine lv_iadd hx hb dX2_decryptBlock_72 ?_
    refine lv_iload hx hb dX2_decryptBlock_73 (lv_at hl 0 rfl) ?_
    refine lv_iload hx hb dX2_decryptBlock_75 (lv_at hl 5 rfl) ?_
    refine lv_iadd hx hb dX2_decryptBlock_77 ?_
    refine lv_ixor hx hb dX2_decryptBlock_78 ?_
    refine lv_iload hx hb dX2_decryptBlock_79 (lv_at hl 0 rfl) ?_
    refine lv_iconst (v := 5) hx hb dX2_decryptBlock_81 (by decide) ?_
    refine lv_iushr (v := (y1.toUInt32 >>> ((5 : Int32).toUInt32 &&& Int32.toUInt32 31)).toInt32) hx hb dX2_decryptBlock_82 rfl ?_
    refine lv_aload_n hx hb dX2_decryptBlock_83 rfl (lv_at hl 1 rfl) ?_
    refine va_get (D := (dC, dI)) (ci := 2) (v := .int kb) (C := RX2) (T := TX2) (N := 6) hx hb hts in_X2 hown hK hP 0 rfl rfl 1 (by decide) (hts _ q79) (fun _ h9 => h9) rfl dX2_decryptBlock_84 ?_
    refine lv_iadd hx hb dX2_decryptBlock_87 ?_
    refine lv_ixor hx hb dX2_decryptBlock_88 ?_
    refine lv_isub hx hb dX2_decryptBlock_89 ?_
    refine lv_topi (fun x1 ex1 => ?_)
    refine lv_istore (lv' := [(5, .int x1), (6, .int y1), (0, .ref h0), (3, .ref qo), (4, .int (nI 0)), (7, .int sm), (8, .int (nI i))]) hx hb dX2_decryptBlock_90 hl (by decide) rfl (fun ls hl => ?_)
    refine lv_iload hx hb dX2_decryptBlock_92 (lv_at hl 5 rfl) ?_
    refine lv_ldc (v := 1640531527) hx hb hown (hts _ q317) dX2_decryptBlock_94 ?_
    refine lv_iadd hx hb dX2_decryptBlock_96 ?_
    refine tk_as (sm - (-1640531527)) (tq_sa sm) ?_
    refine lv_topi (fun s1 es1 => ?_)
    refine lv_istore (lv' := [(7, .int s1), (5, .int x1), (6, .int y1), (0, .ref h0), (3, .ref qo), (4, .int (nI 0)), (8, .int (nI i))]) hx hb dX2_decryptBlock_97 hl (by decide) rfl (fun ls hl => ?_)
    refine lv_iinc (v := nI (i + 1)) (lv' := [(8, .int (nI (i + 1))), (7, .int s1), (5, .int x1), (6, .int y1), (0, .ref h0), (3, .ref qo), (4, .int (nI 0))]) hx hb dX2_decryptBlock_99 hl (k := 6) rfl (tk_inc i) (by decide) rfl (fun ls hl => ?_)
    refine lv_goto (tgt := 25) hx hb dX2_decryptBlock_102 (by decide) ?_
    exact ih (i + 1) x1 y1 s1 (by omega) (by rw [← hv, ex1, ey1, es1]; rfl) ls (lv_sub hl [4, 5, 6, 2, 3, 1, 0] rfl)
set_option maxHeartbeats 4000000 in
set_option maxRecDepth 100000 in
/-- encryptBlock: both words -/
theorem metX2_encryptBlock (l : Launch) (dC : Nat → ClassId) (dI : Nat → Nat → Nat) (h0 qi qo : Nat) (ka kb kc kd ini fe : Int32) (cI cO : ClassId) (fi fo : Nat → Int32) (sz : Nat) : Met l yX2_encryptBlock (ws_ yX2_encryptBlock cX2_encryptBlock 9 (some .int)) ({ frames := 1, cells := 0, slots := 0, locals := 30 }) (va_Pc [.ref h0, .ref qi, .int (nI 0), .ref qo, .int (nI 0)] (fun U => U.heap.size = sz ∧ va_P (dC, dI) vwCl [(h0, .inr (2, [.int ka, .int kb, .int kc, .int kd, .int ini, .int fe])), (qi, .inl (cI, 8, .inl fi)), (qo, .inl (cO, 8, .inl fo))] U.heap ∧ va_K (dC, dI) vwCl [(cI, .byte), (cO, .byte)] U ∧ va_D (fun _ => True) [(h0, .inr (2, [.int ka, .int kb, .int kc, .int kd, .int ini, .int fe])), (qi, .inl (cI, 8, .inl fi)), (qo, .inl (cO, 8, .inl fo))])) (va_Qi (fun (_ : Int32) (u : Nat → Int32) => (tq_w u 0, tq_w u 4) = tq_tE ka kb kc kd 32 0 (tq_w fi 0) (tq_w fi 4)) (fun u t => va_P (dC, dI) vwCl [(h0, .inr (2, [.int ka, .int kb, .int kc, .int kd, .int ini, .int fe])), (qi, .inl (cI, 8, .inl fi)), (qo, .inl (cO, 8, .inl u))] t.heap ∧ va_K (dC, dI) vwCl [(cI, .byte), (cO, .byte)] t ∧ va_D (va_A [(h0, .inr (2, [.int ka, .int kb, .int kc, .int kd, .int ini, .int fe])), (qi, .inl (cI, 8, .inl fi)), (qo, .inl (cO, 8, .inl fo))] sz) [(h0, .inr (2, [.int ka, .int kb, .int kc, .int kd, .int ini, .int fe])), (qi, .inl (cI, 8, .inl fi)), (qo, .inl (cO, 8, .inl u))]) (va_A [(h0, .inr (2, [.int ka, .int kb, .int kc, .int kd, .int ini, .int fe])), (qi, .inl (cI, 8, .inl fi)), (qo, .inl (cO, 8, .inl fo))] sz)) 0 0 (va_A [(h0, .inr (2, [.int ka, .int kb, .int kc, .int kd, .int ini, .int fe])), (qi, .inl (cI, 8, .inl fi)), (qo, .inl (cO, 8, .inl fo))] sz) := by
  refine Met.ofW (cc := cX2_encryptBlock) (maxL := 9) (ret := (some .int)) (by decide) rfl ?_
  intro p e s m args below meth c s₁ B hml hv
  obtain ⟨rfl, hsz, hP, hK, hD0⟩ := hv
  have hx := B.exec
  have hb := B.bytes
  have hr := B.returns
  have hts := atoms_spec (ws := ws_ yX2_encryptBlock cX2_encryptBlock 9 (some .int)) B.pre
  have hts : ∀ w ∈ lw_all, w.before _ s = true := fun w h => hts w (List.mem_cons_of_mem _ h)
  have hown : s.vm.findClass RX2 = some m.cls := findClass_of_methodNamed B.named
  have hlocks := B.notSynchronized
  subst hsz
  have hD := hD0.self (sz := s.heap.size)
  generalize hAe : va_A [(h0, .inr (2, [.int ka, .int kb, .int kc, .int kd, .int ini, .int fe])), (qi, .inl (cI, 8, .inl fi)), (qo, .inl (cO, 8, .inl fo))] s.heap.size = A at hD ⊢
  have hA : ∀ q : Nat, s.heap.size ≤ q → A q := fun q h => by rw [← hAe]; exact Or.inr h
  have hS : va_S A s.heap s.heap [] := va_S.rf
  have hl := lv_entry ([.ref h0, .ref qi, .int (nI 0), .ref qo, .int (nI 0)]) (n := 9) (Nat.le_of_ble_eq_true rfl)
  rw [lg_entry_eq]
  generalize (lg_sl ([.ref h0, .ref qi, .int (nI 0), .ref qo, .int (nI 0)]) ++ List.replicate (9 - (lg_sl ([.ref h0, .ref qi, .int (nI 0), .ref qo, .int (nI 0)])).length) Slot.unset).toArray = ls at hl ⊢
  have hl : lv_has ls 9 [(0, .ref h0), (1, .ref qi), (2, .int (nI 0)), (3, .ref qo), (4, .int (nI 0))] := hl
  have hP : va_P (dC, dI) vwCl [(h0, .inr (2, [.int ka, .int kb, .int kc, .int kd, .int ini, .int fe])), (qi, .inl (cI, 8, .inl fi)), (qo, .inl (cO, 8, .inl fo))] s.heap := hP
  refine lv_aload_n hx hb dX2_encryptBlock_0 rfl (lv_at hl 0 rfl) ?_
  refine lv_aload_n hx hb dX2_encryptBlock_1 rfl (lv_at hl 1 rfl) ?_
  refine lv_iload_n hx hb dX2_encryptBlock_2 rfl (lv_at hl 2 rfl) ?_
  have hPc := hP.sub (ws' := [(qi, .inl (cI, 8, .inl fi))]) [1] rfl
  have hKc := hK.sub (tys' := [(cI, .byte)]) [0] rfl
  refine vp_callSi (W.runV (As := [.ref qi, .int (nI 0)]) (rest := []) ⟨hx, hb, hml, hown, hts⟩ (metX2_bytesToInt l dC dI h0 qi cI 8 fi 0 (by omega) (by omega)) (cwV 2 hts (lw_V q227 q229 qs3 q19 q230) rfl rfl rfl (by decide +kernel) ⟨Nat.le_of_ble_eq_true rfl, Nat.le_of_ble_eq_true rfl⟩) ⟨fun a U g mk q => by obtain ⟨q0, qP, qK⟩ := q; exact ⟨q0, qP, va_K.moved (u := U) (U := U.calling g mk a) (Vm.Alike.refl U.vm) qK⟩, va_recv hK hP (ci := 2) (q0 := 0) rfl rfl, fun U hU hW => ⟨rfl, by rw [hU]; exact hPc, va_K.moved hW.alike hKc⟩⟩ rfl rfl hl.1 rfl (lv_room (Nat.le_of_ble_eq_true rfl)) dX2_encryptBlock_3 ⟨Nat.le_of_ble_eq_true rfl, Nat.le_of_ble_eq_true rfl⟩) (fun z1 hz1 => ?_)
  refine lv_istore (lv' := [(5, .int z1), (0, .ref h0), (1, .ref qi), (2, .int (nI 0)), (3, .ref qo), (4, .int (nI 0))]) hx hb dX2_encryptBlock_6 hl (by decide) rfl (fun ls hl => ?_)
  refine lv_aload_n hx hb dX2_encryptBlock_8 rfl (lv_at hl 1 rfl) ?_
  refine lv_aload_n hx hb dX2_encryptBlock_9 rfl (lv_at hl 2 rfl) ?_
  refine lv_iload_n hx hb dX2_encryptBlock_10 rfl (lv_at hl 3 rfl) ?_
  refine lv_iconst (v := 4) hx hb dX2_encryptBlock_11 (by decide) ?_
  refine lv_iadd hx hb dX2_encryptBlock_12 ?_
  refine tk_as (nI 4) (nI_add 0 4) ?_
  have hPc := hP.sub (ws' := [(qi, .inl (cI, 8, .inl fi))]) [1] rfl
  have hKc := hK.sub (tys' := [(cI, .byte)]) [0] rfl
  refine vp_callSi (W.runV (As := [.ref qi, .int (nI 4)]) (rest := []) ⟨hx, hb, hml, hown, hts⟩ (metX2_bytesToInt l dC dI h0 qi cI 8 fi 4 (by omega) (by omega)) (cwV 2 hts (lw_V q227 q229 qs3 q19 q230) rfl rfl rfl (by decide +kernel) ⟨Nat.le_of_ble_eq_true rfl, Nat.le_of_ble_eq_true rfl⟩) ⟨fun a U g mk q => by obtain ⟨q0, qP, qK⟩ := q; exact ⟨q0, qP, va_K.moved (u := U) (U := U.calling g mk a) (Vm.Alike.refl U.vm) qK⟩, va_recv hK hP (ci := 2) (q0 := 0) rfl rfl, fun U hU hW => ⟨rfl, by rw [hU]; exact hPc, va_K.moved hW.alike hKc⟩⟩ rfl rfl hl.1 rfl (lv_room (Nat.le_of_ble_eq_true rfl)) dX2_encryptBlock_13 ⟨Nat.le_of_ble_eq_true rfl, Nat.le_of_ble_eq_true rfl⟩) (fun z2 hz2 => ?_)
  refine lv_istore (lv' := [(6, .int z2), (5, .int z1), (0, .ref h0), (1, .ref qi), (2, .int (nI 0)), (3, .ref qo), (4, .int (nI 0))]) hx hb dX2_encryptBlock_16 hl (by decide) rfl (fun ls hl => ?_)
  refine lv_iconst (v := 0) hx hb dX2_encryptBlock_18 (by decide) ?_
  refine lv_istore (lv' := [(7, .int 0), (6, .int z2), (5, .int z1), (0, .ref h0), (1, .ref qi), (2, .int (nI 0)), (3, .ref qo), (4, .int (nI 0))]) hx hb dX2_encryptBlock_19 hl (by decide) rfl (fun ls hl => ?_)
  refine lv_iconst (v := 0) hx hb dX2_encryptBlock_21 (by decide) ?_
  refine tk_as (nI 0) (nI_0.symm) ?_
  refine lv_istore (lv' := [(8, .int (nI 0)), (7, .int 0), (6, .int z2), (5, .int z1), (0, .ref h0), (1, .ref qi), (2, .int (nI 0)), (3, .ref qo), (4, .int (nI 0))]) hx hb dX2_encryptBlock_22 hl (by decide) rfl (fun ls hl => ?_)
  obtain ⟨X, Y, hXY⟩ : ∃ X Y : Int32, tq_tE ka kb kc kd 32 0 z1 z2 = (X, Y) := ⟨_, _, rfl⟩
  refine lpX2_enc (X := X) (Y := Y) hx hb hown hts hK hP (fun ls hl => ?_) 32 0 z1 z2 0 rfl hXY ls (lv_sub hl [4, 7, 8, 3, 2, 1, 0] rfl)
  refine lv_aload_n hx hb dX2_encryptBlock_104 rfl (lv_at hl 0 rfl) ?_
  refine lv_iload hx hb dX2_encryptBlock_105 (lv_at hl 3 rfl) ?_
  refine lv_aload_n hx hb dX2_encryptBlock_107 rfl (lv_at hl 1 rfl) ?_
  refine lv_iload hx hb dX2_encryptBlock_108 (lv_at hl 2 rfl) ?_
  have hPc := hP.sub (ws' := [(qo, .inl (cO, 8, .inl fo))]) [2] rfl
  have hDc := hD.sub (ws' := [(qo, .inl (cO, 8, .inl fo))]) [2] (by decide) rfl
  have hKc := hK.sub (tys' := [(cO, .byte)]) [1] rfl
  have hFc := va_free (wc := [(qo, .inl (cO, 8, .inl fo))]) hD hS hA [2] rfl
  refine va_callv (va_runV (As := [.int X, .ref qo, .int (nI 0)]) (rest := []) ⟨hx, hb, hml, hown, hts⟩ (metX2_unpackInt l dC dI h0 qo cO 8 fo X 0 (by omega) (by omega) s.heap.size) (cwV 3 hts (lw_V q318 q320 qs7 q19 q321) rfl rfl rfl (by decide +kernel) ⟨Nat.le_of_ble_eq_true rfl, Nat.le_of_ble_eq_true rfl⟩) ⟨fun a U g mk q => by obtain ⟨q0, q1, qP, qK, qD⟩ := q; exact ⟨q0, q1, qP, va_K.moved (u := U) (U := U.calling g mk a) (Vm.Alike.refl U.vm) qK, qD⟩, va_recv hK hP (ci := 2) (q0 := 0) rfl rfl, fun U hU hW => ⟨rfl, by rw [hU], by rw [hU]; exact hPc, va_K.moved hW.alike hKc, hDc.weaken (fun _ _ _ _ => trivial)⟩⟩ rfl rfl hl.1 rfl (lv_room (Nat.le_of_ble_eq_true rfl)) dX2_encryptBlock_110 ⟨Nat.le_of_ble_eq_true rfl, Nat.le_of_ble_eq_true rfl⟩) hS (fun q _ h => hFc q h) hFc (fun u1 t H1 locs ht hvm hw1 hB hzz hk1 hS => ?_)
  obtain ⟨hP1, hK1, hD1⟩ := hB
  rw [ht] at hP1
  obtain ⟨hP, hD⟩ := va_join (wr := [(h0, .inr (2, [.int ka, .int kb, .int kc, .int kd, .int ini, .int fe])), (qi, .inl (cI, 8, .inl fi))]) (w1 := [(qo, .inl (cO, 8, .inl u1))]) hP hD [2] [0, 1] rfl rfl (by decide) (by decide) hk1 hFc hP1 hD1
  generalize H1 = H at hP hS ⊢
  have hP : va_P (dC, dI) vwCl [(h0, .inr (2, [.int ka, .int kb, .int kc, .int kd, .int ini, .int fe])), (qi, .inl (cI, 8, .inl fi)), (qo, .inl (cO, 8, .inl u1))] H := hP
  have hD : va_D A [(h0, .inr (2, [.int ka, .int kb, .int kc, .int kd, .int ini, .int fe])), (qi, .inl (cI, 8, .inl fi)), (qo, .inl (cO, 8, .inl u1))] := hD
  refine lv_aload_n hx hb dX2_encryptBlock_113 rfl (lv_at hl 0 rfl) ?_
  refine lv_iload hx hb dX2_encryptBlock_114 (lv_at hl 4 rfl) ?_
  refine lv_aload_n hx hb dX2_encryptBlock_116 rfl (lv_at hl 1 rfl) ?_
  refine lv_iload hx hb dX2_encryptBlock_117 (lv_at hl 2 rfl) ?_
  refine lv_iconst (v := 4) hx hb dX2_encryptBlock_119 (by decide) ?_
  refine lv_iadd hx hb dX2_encryptBlock_120 ?_
  refine tk_as (nI 4) (nI_add 0 4) ?_
  have hPc := hP.sub (ws' := [(qo, .inl (cO, 8, .inl u1))]) [2] rfl
  have hDc := hD.sub (ws' := [(qo, .inl (cO, 8, .inl u1))]) [2] (by decide) rfl
  have hKc := hK.sub (tys' := [(cO, .byte)]) [1] rfl
  have hFc := va_free (wc := [(qo, .inl (cO, 8, .inl u1))]) hD hS hA [2] rfl
  refine va_callv (va_runV (As := [.int Y, .ref qo, .int (nI 4)]) (rest := []) ⟨hx, hb, hml, hown, hts⟩ (metX2_unpackInt l dC dI h0 qo cO 8 u1 Y 4 (by omega) (by omega) H.size) (cwV 3 hts (lw_V q318 q320 qs7 q19 q321) rfl rfl rfl (by decide +kernel) ⟨Nat.le_of_ble_eq_true rfl, Nat.le_of_ble_eq_true rfl⟩) ⟨fun a U g mk q => by obtain ⟨q0, q1, qP, qK, qD⟩ := q; exact ⟨q0, q1, qP, va_K.moved (u := U) (U := U.calling g mk a) (Vm.Alike.refl U.vm) qK, qD⟩, va_recv hK hP (ci := 2) (q0 := 0) rfl rfl, fun U hU hW => ⟨rfl, by rw [hU], by rw [hU]; exact hPc, va_K.moved hW.alike hKc, hDc.weaken (fun _ _ _ _ => trivial)⟩⟩ rfl rfl hl.1 rfl (lv_room (Nat.le_of_ble_eq_true rfl)) dX2_encryptBlock_121 ⟨Nat.le_of_ble_eq_true rfl, Nat.le_of_ble_eq_true rfl⟩) hS (fun q _ h => hFc q h) hFc (fun u2 t H1 locs ht hvm hw2 hB hzz hk1 hS => ?_)
  obtain ⟨hP1, hK1, hD1⟩ := hB
  rw [ht] at hP1
  obtain ⟨hP, hD⟩ := va_join (wr := [(h0, .inr (2, [.int ka, .int kb, .int kc, .int kd, .int ini, .int fe])), (qi, .inl (cI, 8, .inl fi))]) (w1 := [(qo, .inl (cO, 8, .inl u2))]) hP hD [2] [0, 1] rfl rfl (by decide) (by decide) hk1 hFc hP1 hD1
  generalize H1 = H at hP hS ⊢
  have hP : va_P (dC, dI) vwCl [(h0, .inr (2, [.int ka, .int kb, .int kc, .int kd, .int ini, .int fe])), (qi, .inl (cI, 8, .inl fi)), (qo, .inl (cO, 8, .inl u2))] H := hP
  have hD : va_D A [(h0, .inr (2, [.int ka, .int kb, .int kc, .int kd, .int ini, .int fe])), (qi, .inl (cI, 8, .inl fi)), (qo, .inl (cO, 8, .inl u2))] := hD
  refine lv_bipush (v := 8) hx hb dX2_encryptBlock_124 (by decide) ?_
  have hfin : (tq_w u2 0, tq_w u2 4) = tq_tE ka kb kc kd 32 0 (tq_w fi 0) (tq_w fi 4) := by rw [hw2.1, tq_eq (f := u2) (g := u1) (i := 0) (fun j _ hj => hw2.2 j (Or.inl (by omega))), hw1.1, ← hXY, hz1, hz2]
  have hP9 := hP.sub (ws' := [(h0, .inr (2, [.int ka, .int kb, .int kc, .int kd, .int ini, .int fe])), (qi, .inl (cI, 8, .inl fi)), (qo, .inl (cO, 8, .inl u2))]) [0, 1, 2] rfl
  have hD9 := hD.sub (ws' := [(h0, .inr (2, [.int ka, .int kb, .int kc, .int kd, .int ini, .int fe])), (qi, .inl (cI, 8, .inl fi)), (qo, .inl (cO, 8, .inl u2))]) [0, 1, 2] (by decide) rfl
  have hK9 := hK.sub (tys' := [(cI, .byte), (cO, .byte)]) [0, 1] rfl
  exact W.iret hx hb hr (fun t ht hW => ⟨⟨_, u2, rfl, hfin, by rw [ht]; exact hP9, va_K.moved hW.alike hK9, hD9⟩, hS.F ht⟩) hS.2.2 dX2_encryptBlock_126
set_option maxHeartbeats 4000000 in
set_option maxRecDepth 100000 in
/-- decryptBlock: both words -/
theorem metX2_decryptBlock (l : Launch) (dC : Nat → ClassId) (dI : Nat → Nat → Nat) (h0 qi qo : Nat) (ka kb kc kd ini fe : Int32) (cI cO : ClassId) (fi fo : Nat → Int32) (sz : Nat) : Met l yX2_decryptBlock (ws_ yX2_decryptBlock cX2_decryptBlock 9 (some .int)) ({ frames := 1, cells := 0, slots := 0, locals := 30 }) (va_Pc [.ref h0, .ref qi, .int (nI 0), .ref qo, .int (nI 0)] (fun U => U.heap.size = sz ∧ va_P (dC, dI) vwCl [(h0, .inr (2, [.int ka, .int kb, .int kc, .int kd, .int ini, .int fe])), (qi, .inl (cI, 8, .inl fi)), (qo, .inl (cO, 8, .inl fo))] U.heap ∧ va_K (dC, dI) vwCl [(cI, .byte), (cO, .byte)] U ∧ va_D (fun _ => True) [(h0, .inr (2, [.int ka, .int kb, .int kc, .int kd, .int ini, .int fe])), (qi, .inl (cI, 8, .inl fi)), (qo, .inl (cO, 8, .inl fo))])) (va_Qi (fun (_ : Int32) (u : Nat → Int32) => (tq_w u 0, tq_w u 4) = tq_tD ka kb kc kd 32 (-957401312) (tq_w fi 0) (tq_w fi 4)) (fun u t => va_P (dC, dI) vwCl [(h0, .inr (2, [.int ka, .int kb, .int kc, .int kd, .int ini, .int fe])), (qi, .inl (cI, 8, .inl fi)), (qo, .inl (cO, 8, .inl u))] t.heap ∧ va_K (dC, dI) vwCl [(cI, .byte), (cO, .byte)] t ∧ va_D (va_A [(h0, .inr (2, [.int ka, .int kb, .int kc, .int kd, .int ini, .int fe])), (qi, .inl (cI, 8, .inl fi)), (qo, .inl (cO, 8, .inl fo))] sz) [(h0, .inr (2, [.int ka, .int kb, .int kc, .int kd, .int ini, .int fe])), (qi, .inl (cI, 8, .inl fi)), (qo, .inl (cO, 8, .inl u))]) (va_A [(h0, .inr (2, [.int ka, .int kb, .int kc, .int kd, .int ini, .int fe])), (qi, .inl (cI, 8, .inl fi)), (qo, .inl (cO, 8, .inl fo))] sz)) 0 0 (va_A [(h0, .inr (2, [.int ka, .int kb, .int kc, .int kd, .int ini, .int fe])), (qi, .inl (cI, 8, .inl fi)), (qo, .inl (cO, 8, .inl fo))] sz) := by
  refine Met.ofW (cc := cX2_decryptBlock) (maxL := 9) (ret := (some .int)) (by decide) rfl ?_
  intro p e s m args below meth c s₁ B hml hv
  obtain ⟨rfl, hsz, hP, hK, hD0⟩ := hv
  have hx := B.exec
  have hb := B.bytes
  have hr := B.returns
  have hts := atoms_spec (ws := ws_ yX2_decryptBlock cX2_decryptBlock 9 (some .int)) B.pre
  have hts : ∀ w ∈ lw_all, w.before _ s = true := fun w h => hts w (List.mem_cons_of_mem _ h)
  have hown : s.vm.findClass RX2 = some m.cls := findClass_of_methodNamed B.named
  have hlocks := B.notSynchronized
  subst hsz
  have hD := hD0.self (sz := s.heap.size)
  generalize hAe : va_A [(h0, .inr (2, [.int ka, .int kb, .int kc, .int kd, .int ini, .int fe])), (qi, .inl (cI, 8, .inl fi)), (qo, .inl (cO, 8, .inl fo))] s.heap.size = A at hD ⊢
  have hA : ∀ q : Nat, s.heap.size ≤ q → A q := fun q h => by rw [← hAe]; exact Or.inr h
  have hS : va_S A s.heap s.heap [] := va_S.rf
  have hl := lv_entry ([.ref h0, .ref qi, .int (nI 0), .ref qo, .int (nI 0)]) (n := 9) (Nat.le_of_ble_eq_true rfl)
  rw [lg_entry_eq]
  generalize (lg_sl ([.ref h0, .ref qi, .int (nI 0), .ref qo, .int (nI 0)]) ++ List.replicate (9 - (lg_sl ([.ref h0, .ref qi, .int (nI 0), .ref qo, .int (nI 0)])).length) Slot.unset).toArray = ls at hl ⊢
  have hl : lv_has ls 9 [(0, .ref h0), (1, .ref qi), (2, .int (nI 0)), (3, .ref qo), (4, .int (nI 0))] := hl
  have hP : va_P (dC, dI) vwCl [(h0, .inr (2, [.int ka, .int kb, .int kc, .int kd, .int ini, .int fe])), (qi, .inl (cI, 8, .inl fi)), (qo, .inl (cO, 8, .inl fo))] s.heap := hP
  refine lv_aload_n hx hb dX2_decryptBlock_0 rfl (lv_at hl 0 rfl) ?_
  refine lv_aload_n hx hb dX2_decryptBlock_1 rfl (lv_at hl 1 rfl) ?_
  refine lv_iload_n hx hb dX2_decryptBlock_2 rfl (lv_at hl 2 rfl) ?_
  have hPc := hP.sub (ws' := [(qi, .inl (cI, 8, .inl fi))]) [1] rfl
  have hKc := hK.sub (tys' := [(cI, .byte)]) [0] rfl
  refine vp_callSi (W.runV (As := [.ref qi, .int (nI 0)]) (rest := []) ⟨hx, hb, hml, hown, hts⟩ (metX2_bytesToInt l dC dI h0 qi cI 8 fi 0 (by omega) (by omega)) (cwV 2 hts (lw_V q227 q229 qs3 q19 q230) rfl rfl rfl (by decide +kernel) ⟨Nat.le_of_ble_eq_true rfl, Nat.le_of_ble_eq_true rfl⟩) ⟨fun a U g mk q => by obtain ⟨q0, qP, qK⟩ := q; exact ⟨q0, qP, va_K.moved (u := U) (U := U.calling g mk a) (Vm.Alike.refl U.vm) qK⟩, va_recv hK hP (ci := 2) (q0 := 0) rfl rfl, fun U hU hW => ⟨rfl, by rw [hU]; exact hPc, va_K.moved hW.alike hKc⟩⟩ rfl rfl hl.1 rfl (lv_room (Nat.le_of_ble_eq_true rfl)) dX2_decryptBlock_3 ⟨Nat.le_of_ble_eq_true rfl, Nat.le_of_ble_eq_true rfl⟩) (fun z1 hz1 => ?_)
  refine lv_istore (lv' := [(5, .int z1), (0, .ref h0), (1, .ref qi), (2, .int (nI 0)), (3, .ref qo), (4, .int (nI 0))]) hx hb dX2_decryptBlock_6 hl (by decide) rfl (fun ls hl => ?_)
  refine lv_aload_n hx hb dX2_decryptBlock_8 rfl (lv_at hl 1 rfl) ?_
  refine lv_aload_n hx hb dX2_decryptBlock_9 rfl (lv_at hl 2 rfl) ?_
  refine lv_iload_n hx hb dX2_decryptBlock_10 rfl (lv_at hl 3 rfl) ?_
  refine lv_iconst (v := 4) hx hb dX2_decryptBlock_11 (by decide) ?_
  refine lv_iadd hx hb dX2_decryptBlock_12 ?_
  refine tk_as (nI 4) (nI_add 0 4) ?_
  have hPc := hP.sub (ws' := [(qi, .inl (cI, 8, .inl fi))]) [1] rfl
  have hKc := hK.sub (tys' := [(cI, .byte)]) [0] rfl
  refine vp_callSi (W.runV (As := [.ref qi, .int (nI 4)]) (rest := []) ⟨hx, hb, hml, hown, hts⟩ (metX2_bytesToInt l dC dI h0 qi cI 8 fi 4 (by omega) (by omega)) (cwV 2 hts (lw_V q227 q229 qs3 q19 q230) rfl rfl rfl (by decide +kernel) ⟨Nat.le_of_ble_eq_true rfl, Nat.le_of_ble_eq_true rfl⟩) ⟨fun a U g mk q => by obtain ⟨q0, qP, qK⟩ := q; exact ⟨q0, qP, va_K.moved (u := U) (U := U.calling g mk a) (Vm.Alike.refl U.vm) qK⟩, va_recv hK hP (ci := 2) (q0 := 0) rfl rfl, fun U hU hW => ⟨rfl, by rw [hU]; exact hPc, va_K.moved hW.alike hKc⟩⟩ rfl rfl hl.1 rfl (lv_room (Nat.le_of_ble_eq_true rfl)) dX2_decryptBlock_13 ⟨Nat.le_of_ble_eq_true rfl, Nat.le_of_ble_eq_true rfl⟩) (fun z2 hz2 => ?_)
  refine lv_istore (lv' := [(6, .int z2), (5, .int z1), (0, .ref h0), (1, .ref qi), (2, .int (nI 0)), (3, .ref qo), (4, .int (nI 0))]) hx hb dX2_decryptBlock_16 hl (by decide) rfl (fun ls hl => ?_)
  refine lv_ldc (v := -957401312) hx hb hown (hts _ q326) dX2_decryptBlock_18 ?_
  refine lv_istore (lv' := [(7, .int (-957401312)), (6, .int z2), (5, .int z1), (0, .ref h0), (1, .ref qi), (2, .int (nI 0)), (3, .ref qo), (4, .int (nI 0))]) hx hb dX2_decryptBlock_20 hl (by decide) rfl (fun ls hl => ?_)
  refine lv_iconst (v := 0) hx hb dX2_decryptBlock_22 (by decide) ?_
  refine tk_as (nI 0) (nI_0.symm) ?_
  refine lv_istore (lv' := [(8, .int (nI 0)), (7, .int (-957401312)), (6, .int z2), (5, .int z1), (0, .ref h0), (1, .ref qi), (2, .int (nI 0)), (3, .ref qo), (4, .int (nI 0))]) hx hb dX2_decryptBlock_23 hl (by decide) rfl (fun ls hl => ?_)
  obtain ⟨X, Y, hXY⟩ : ∃ X Y : Int32, tq_tD ka kb kc kd 32 (-957401312) z1 z2 = (X, Y) := ⟨_, _, rfl⟩
  refine lpX2_dec (X := X) (Y := Y) hx hb hown hts hK hP (fun ls hl => ?_) 32 0 z1 z2 (-957401312) rfl hXY ls (lv_sub hl [4, 7, 8, 3, 2, 1, 0] rfl)
  refine lv_aload_n hx hb dX2_decryptBlock_105 rfl (lv_at hl 0 rfl) ?_
  refine lv_iload hx hb dX2_decryptBlock_106 (lv_at hl 3 rfl) ?_
  refine lv_aload_n hx hb dX2_decryptBlock_108 rfl (lv_at hl 1 rfl) ?_
  refine lv_iload hx hb dX2_decryptBlock_109 (lv_at hl 2 rfl) ?_
  have hPc := hP.sub (ws' := [(qo, .inl (cO, 8, .inl fo))]) [2] rfl
  have hDc := hD.sub (ws' := [(qo, .inl (cO, 8, .inl fo))]) [2] (by decide) rfl
  have hKc := hK.sub (tys' := [(cO, .byte)]) [1] rfl
  have hFc := va_free (wc := [(qo, .inl (cO, 8, .inl fo))]) hD hS hA [2] rfl
  refine va_callv (va_runV (As := [.int X, .ref qo, .int (nI 0)]) (rest := []) ⟨hx, hb, hml, hown, hts⟩ (metX2_unpackInt l dC dI h0 qo cO 8 fo X 0 (by omega) (by omega) s.heap.size) (cwV 3 hts (lw_V q318 q320 qs7 q19 q321) rfl rfl rfl (by decide +kernel) ⟨Nat.le_of_ble_eq_true rfl, Nat.le_of_ble_eq_true rfl⟩) ⟨fun a U g mk q => by obtain ⟨q0, q1, qP, qK, qD⟩ := q; exact ⟨q0, q1, qP, va_K.moved (u := U) (U := U.calling g mk a) (Vm.Alike.refl U.vm) qK, qD⟩, va_recv hK hP (ci := 2) (q0 := 0) rfl rfl, fun U hU hW => ⟨rfl, by rw [hU], by rw [hU]; exact hPc, va_K.moved hW.alike hKc, hDc.weaken (fun _ _ _ _ => trivial)⟩⟩ rfl rfl hl.1 rfl (lv_room (Nat.le_of_ble_eq_true rfl)) dX2_decryptBlock_111 ⟨Nat.le_of_ble_eq_true rfl, Nat.le_of_ble_eq_true rfl⟩) hS (fun q _ h => hFc q h) hFc (fun u1 t H1 locs ht hvm hw1 hB hzz hk1 hS => ?_)
  obtain ⟨hP1, hK1, hD1⟩ := hB
  rw [ht] at hP1
  obtain ⟨hP, hD⟩ := va_join (wr := [(h0, .inr (2, [.int ka, .int kb, .int kc, .int kd, .int ini, .int fe])), (qi, .inl (cI, 8, .inl fi))]) (w1 := [(qo, .inl (cO, 8, .inl u1))]) hP hD [2] [0, 1] rfl rfl (by decide) (by decide) hk1 hFc hP1 hD1
  generalize H1 = H at hP hS ⊢
  have hP : va_P (dC, dI) vwCl [(h0, .inr (2, [.int ka, .int kb, .int kc, .int kd, .int ini, .int fe])), (qi, .inl (cI, 8, .inl fi)), (qo, .inl (cO, 8, .inl u1))] H := hP
  have hD : va_D A [(h0, .inr (2, [.int ka, .int kb, .int kc, .int kd, .int ini, .int fe])), (qi, .inl (cI, 8, .inl fi)), (qo, .inl (cO, 8, .inl u1))] := hD
  refine lv_aload_n hx hb dX2_decryptBlock_114 rfl (lv_at hl 0 rfl) ?_
  refine lv_iload hx hb dX2_decryptBlock_115 (lv_at hl 4 rfl) ?_
  refine lv_aload_n hx hb dX2_decryptBlock_117 rfl (lv_at hl 1 rfl) ?_
  refine lv_iload hx hb dX2_decryptBlock_118 (lv_at hl 2 rfl) ?_
  refine lv_iconst (v := 4) hx hb dX2_decryptBlock_120 (by decide) ?_
  refine lv_iadd hx hb dX2_decryptBlock_121 ?_
  refine tk_as (nI 4) (nI_add 0 4) ?_
  have hPc := hP.sub (ws' := [(qo, .inl (cO, 8, .inl u1))]) [2] rfl
  have hDc := hD.sub (ws' := [(qo, .inl (cO, 8, .inl u1))]) [2] (by decide) rfl
  have hKc := hK.sub (tys' := [(cO, .byte)]) [1] rfl
  have hFc := va_free (wc := [(qo, .inl (cO, 8, .inl u1))]) hD hS hA [2] rfl
  refine va_callv (va_runV (As := [.int Y, .ref qo, .int (nI 4)]) (rest := []) ⟨hx, hb, hml, hown, hts⟩ (metX2_unpackInt l dC dI h0 qo cO 8 u1 Y 4 (by omega) (by omega) H.size) (cwV 3 hts (lw_V q318 q320 qs7 q19 q321) rfl rfl rfl (by decide +kernel) ⟨Nat.le_of_ble_eq_true rfl, Nat.le_of_ble_eq_true rfl⟩) ⟨fun a U g mk q => by obtain ⟨q0, q1, qP, qK, qD⟩ := q; exact ⟨q0, q1, qP, va_K.moved (u := U) (U := U.calling g mk a) (Vm.Alike.refl U.vm) qK, qD⟩, va_recv hK hP (ci := 2) (q0 := 0) rfl rfl, fun U hU hW => ⟨rfl, by rw [hU], by rw [hU]; exact hPc, va_K.moved hW.alike hKc, hDc.weaken (fun _ _ _ _ => trivial)⟩⟩ rfl rfl hl.1 rfl (lv_room (Nat.le_of_ble_eq_true rfl)) dX2_decryptBlock_122 ⟨Nat.le_of_ble_eq_true rfl, Nat.le_of_ble_eq_true rfl⟩) hS (fun q _ h => hFc q h) hFc (fun u2 t H1 locs ht hvm hw2 hB hzz hk1 hS => ?_)
  obtain ⟨hP1, hK1, hD1⟩ := hB
  rw [ht] at hP1
  obtain ⟨hP, hD⟩ := va_join (wr := [(h0, .inr (2, [.int ka, .int kb, .int kc, .int kd, .int ini, .int fe])), (qi, .inl (cI, 8, .inl fi))]) (w1 := [(qo, .inl (cO, 8, .inl u2))]) hP hD [2] [0, 1] rfl rfl (by decide) (by decide) hk1 hFc hP1 hD1
  generalize H1 = H at hP hS ⊢
  have hP : va_P (dC, dI) vwCl [(h0, .inr (2, [.int ka, .int kb, .int kc, .int kd, .int ini, .int fe])), (qi, .inl (cI, 8, .inl fi)), (qo, .inl (cO, 8, .inl u2))] H := hP
  have hD : va_D A [(h0, .inr (2, [.int ka, .int kb, .int kc, .int kd, .int ini, .int fe])), (qi, .inl (cI, 8, .inl fi)), (qo, .inl (cO, 8, .inl u2))] := hD
  refine lv_bipush (v := 8) hx hb dX2_decryptBlock_125 (by decide) ?_
  have hfin : (tq_w u2 0, tq_w u2 4) = tq_tD ka kb kc kd 32 (-957401312) (tq_w fi 0) (tq_w fi 4) := by rw [hw2.1, tq_eq (f := u2) (g := u1) (i := 0) (fun j _ hj => hw2.2 j (Or.inl (by omega))), hw1.1, ← hXY, hz1, hz2]
  have hP9 := hP.sub (ws' := [(h0, .inr (2, [.int ka, .int kb, .int kc, .int kd, .int ini, .int fe])), (qi, .inl (cI, 8, .inl fi)), (qo, .inl (cO, 8, .inl u2))]) [0, 1, 2] rfl
  have hD9 := hD.sub (ws' := [(h0, .inr (2, [.int ka, .int kb, .int kc, .int kd, .int ini, .int fe])), (qi, .inl (cI, 8, .inl fi)), (qo, .inl (cO, 8, .inl u2))]) [0, 1, 2] (by decide) rfl
  have hK9 := hK.sub (tys' := [(cI, .byte), (cO, .byte)]) [0, 1] rfl
  exact W.iret hx hb hr (fun t ht hW => ⟨⟨_, u2, rfl, hfin, by rw [ht]; exact hP9, va_K.moved hW.alike hK9, hD9⟩, hS.F ht⟩) hS.2.2 dX2_decryptBlock_127
set_option maxHeartbeats 4000000 in
set_option maxRecDepth 100000 in
/-- processBlock: by the direction -/
theorem metX2_processBlock (l : Launch) (dC : Nat → ClassId) (dI : Nat → Nat → Nat) (h0 qi qo : Nat) (ka kb kc kd en : Int32) (cI cO : ClassId) (fi fo : Nat → Int32) (sz : Nat) : Met l yX2_processBlock (ws_ yX2_processBlock cX2_processBlock 5 (some .int)) ({ frames := 2, cells := 0, slots := 0, locals := 60 }) (va_Pc [.ref h0, .ref qi, .int (nI 0), .ref qo, .int (nI 0)] (fun U => U.heap.size = sz ∧ va_P (dC, dI) vwCl [(h0, .inr (2, [.int ka, .int kb, .int kc, .int kd, .int 1, .int en])), (qi, .inl (cI, 8, .inl fi)), (qo, .inl (cO, 8, .inl fo))] U.heap ∧ va_K (dC, dI) vwCl [(cI, .byte), (cO, .byte)] U ∧ va_D (fun _ => True) [(h0, .inr (2, [.int ka, .int kb, .int kc, .int kd, .int 1, .int en])), (qi, .inl (cI, 8, .inl fi)), (qo, .inl (cO, 8, .inl fo))])) (va_Qi (fun (_ : Int32) (u : Nat → Int32) => (tq_w u 0, tq_w u 4) = if en = 0 then tq_tD ka kb kc kd 32 (-957401312) (tq_w fi 0) (tq_w fi 4) else tq_tE ka kb kc kd 32 0 (tq_w fi 0) (tq_w fi 4)) (fun u t => va_P (dC, dI) vwCl [(h0, .inr (2, [.int ka, .int kb, .int kc, .int kd, .int 1, .int en])), (qi, .inl (cI, 8, .inl fi)), (qo, .inl (cO, 8, .inl u))] t.heap ∧ va_K (dC, dI) vwCl [(cI, .byte), (cO, .byte)] t ∧ va_D (va_A [(h0, .inr (2, [.int ka, .int kb, .int kc, .int kd, .int 1, .int en])), (qi, .inl (cI, 8, .inl fi)), (qo, .inl (cO, 8, .inl fo))] sz) [(h0, .inr (2, [.int ka, .int kb, .int kc, .int kd, .int 1, .int en])), (qi, .inl (cI, 8, .inl fi)), (qo, .inl (cO, 8, .inl u))]) (va_A [(h0, .inr (2, [.int ka, .int kb, .int kc, .int kd, .int 1, .int en])), (qi, .inl (cI, 8, .inl fi)), (qo, .inl (cO, 8, .inl fo))] sz)) 0 0 (va_A [(h0, .inr (2, [.int ka, .int kb, .int kc, .int kd, .int 1, .int en])), (qi, .inl (cI, 8, .inl fi)), (qo, .inl (cO, 8, .inl fo))] sz) := by
  refine Met.ofW (cc := cX2_processBlock) (maxL := 5) (ret := (some .int)) (by decide) rfl ?_
  intro p e s m args below meth c s₁ B hml hv
  obtain ⟨rfl, hsz, hP, hK, hD0⟩ := hv
  have hx := B.exec
  have hb := B.bytes
  have hr := B.returns
  have hts := atoms_spec (ws := ws_ yX2_processBlock cX2_processBlock 5 (some .int)) B.pre
  have hts : ∀ w ∈ lw_all, w.before _ s = true := fun w h => hts w (List.mem_cons_of_mem _ h)
  have hown : s.vm.findClass RX2 = some m.cls := findClass_of_methodNamed B.named
  have hlocks := B.notSynchronized
  subst hsz
  have hD := hD0.self (sz := s.heap.size)
  generalize hAe : va_A [(h0, .inr (2, [.int ka, .int kb, .int kc, .int kd, .int 1, .int en])), (qi, .inl (cI, 8, .inl fi)), (qo, .inl (cO, 8, .inl fo))] s.heap.size = A at hD ⊢
  have hA : ∀ q : Nat, s.heap.size ≤ q → A q := fun q h => by rw [← hAe]; exact Or.inr h
  have hS : va_S A s.heap s.heap [] := va_S.rf
  have hl := lv_entry ([.ref h0, .ref qi, .int (nI 0), .ref qo, .int (nI 0)]) (n := 5) (Nat.le_of_ble_eq_true rfl)
  rw [lg_entry_eq]
  generalize (lg_sl ([.ref h0, .ref qi, .int (nI 0), .ref qo, .int (nI 0)]) ++ List.replicate (5 - (lg_sl ([.ref h0, .ref qi, .int (nI 0), .ref qo, .int (nI 0)])).length) Slot.unset).toArray = ls at hl ⊢
  have hl : lv_has ls 5 [(0, .ref h0), (1, .ref qi), (2, .int (nI 0)), (3, .ref qo), (4, .int (nI 0))] := hl
  have hP : va_P (dC, dI) vwCl [(h0, .inr (2, [.int ka, .int kb, .int kc, .int kd, .int 1, .int en])), (qi, .inl (cI, 8, .inl fi)), (qo, .inl (cO, 8, .inl fo))] s.heap := hP
  refine lv_aload_n hx hb dX2_processBlock_0 rfl (lv_at hl 0 rfl) ?_
  refine va_get (D := (dC, dI)) (ci := 2) (v := .int 1) (C := RX2) (T := TX2) (N := 6) hx hb hts in_X2 hown hK hP 0 rfl rfl 4 (by decide) (hts _ q82) (fun _ h9 => h9) rfl dX2_processBlock_1 ?_
  refine lv_if_ne (tgt := 17) hx hb dX2_processBlock_4 (by decide) (fun _ => ?_) (fun h9 => absurd h9 (by decide))
  refine lv_iload_n hx hb dX2_processBlock_17 rfl (lv_at hl 2 rfl) ?_
  refine lv_bipush (v := 8) hx hb dX2_processBlock_18 (by decide) ?_
  refine lv_iadd hx hb dX2_processBlock_20 ?_
  refine lv_aload_n hx hb dX2_processBlock_21 rfl (lv_at hl 1 rfl) ?_
  refine va_alen (v := 8) hx hb hK hP 1 0 rfl rfl rfl dX2_processBlock_22 ?_
  refine lv_icmp_le (tgt := 36) hx hb dX2_processBlock_23 (by decide) (fun _ => ?_) (fun h9 => absurd (by decide +kernel) h9)
  refine lv_iload hx hb dX2_processBlock_36 (lv_at hl 4 rfl) ?_
  refine lv_bipush (v := 8) hx hb dX2_processBlock_38 (by decide) ?_
  refine lv_iadd hx hb dX2_processBlock_40 ?_
  refine lv_aload_n hx hb dX2_processBlock_41 rfl (lv_at hl 3 rfl) ?_
  refine va_alen (v := 8) hx hb hK hP 2 1 rfl rfl rfl dX2_processBlock_42 ?_
  refine lv_icmp_le (tgt := 56) hx hb dX2_processBlock_43 (by decide) (fun _ => ?_) (fun h9 => absurd (by decide +kernel) h9)
  refine lv_aload_n hx hb dX2_processBlock_56 rfl (lv_at hl 0 rfl) ?_
  refine va_get (D := (dC, dI)) (ci := 2) (v := .int en) (C := RX2) (T := TX2) (N := 6) hx hb hts in_X2 hown hK hP 0 rfl rfl 5 (by decide) (hts _ q83) (fun _ h9 => h9) rfl dX2_processBlock_57 ?_
  refine lv_if_eq (tgt := 75) hx hb dX2_processBlock_60 (by decide) (fun h9 => ?_) (fun h9 => ?_)
  · refine lv_aload_n hx hb dX2_processBlock_75 rfl (lv_at hl 0 rfl) ?_
    refine lv_aload_n hx hb dX2_processBlock_76 rfl (lv_at hl 1 rfl) ?_
    refine lv_iload_n hx hb dX2_processBlock_77 rfl (lv_at hl 2 rfl) ?_
    refine lv_aload_n hx hb dX2_processBlock_78 rfl (lv_at hl 3 rfl) ?_
    refine lv_iload hx hb dX2_processBlock_79 (lv_at hl 4 rfl) ?_
    have hPc := hP.sub (ws' := [(h0, .inr (2, [.int ka, .int kb, .int kc, .int kd, .int 1, .int en])), (qi, .inl (cI, 8, .inl fi)), (qo, .inl (cO, 8, .inl fo))]) [0, 1, 2] rfl
    have hDc := hD.sub (ws' := [(h0, .inr (2, [.int ka, .int kb, .int kc, .int kd, .int 1, .int en])), (qi, .inl (cI, 8, .inl fi)), (qo, .inl (cO, 8, .inl fo))]) [0, 1, 2] (by decide) rfl
    have hKc := hK.sub (tys' := [(cI, .byte), (cO, .byte)]) [0, 1] rfl
    have hFc := va_free (wc := [(h0, .inr (2, [.int ka, .int kb, .int kc, .int kd, .int 1, .int en])), (qi, .inl (cI, 8, .inl fi)), (qo, .inl (cO, 8, .inl fo))]) hD hS hA [0, 1, 2] rfl
    refine va_calli (va_runV (As := [.ref qi, .int (nI 0), .ref qo, .int (nI 0)]) (rest := []) ⟨hx, hb, hml, hown, hts⟩ (metX2_decryptBlock l dC dI h0 qi qo ka kb kc kd 1 en cI cO fi fo s.heap.size) (cwV 4 hts (lw_V q322 q324 qs8 q19 q325) rfl rfl rfl (by decide +kernel) ⟨Nat.le_of_ble_eq_true rfl, Nat.le_of_ble_eq_true rfl⟩) ⟨fun a U g mk q => by obtain ⟨q0, q1, qP, qK, qD⟩ := q; exact ⟨q0, q1, qP, va_K.moved (u := U) (U := U.calling g mk a) (Vm.Alike.refl U.vm) qK, qD⟩, va_recv hK hP (ci := 2) (q0 := 0) rfl rfl, fun U hU hW => ⟨rfl, by rw [hU], by rw [hU]; exact hPc, va_K.moved hW.alike hKc, hDc.weaken (fun _ _ _ _ => trivial)⟩⟩ rfl rfl hl.1 rfl (lv_room (Nat.le_of_ble_eq_true rfl)) dX2_processBlock_81 ⟨Nat.le_of_ble_eq_true rfl, Nat.le_of_ble_eq_true rfl⟩) hS (fun q _ h => hFc q h) hFc (fun r1 u t H1 locs ht hvm hw hB hzz hk1 hS => ?_)
    obtain ⟨hP1, hK1, hD1⟩ := hB
    rw [ht] at hP1
    obtain ⟨hP, hD⟩ := va_join (wr := []) (w1 := [(h0, .inr (2, [.int ka, .int kb, .int kc, .int kd, .int 1, .int en])), (qi, .inl (cI, 8, .inl fi)), (qo, .inl (cO, 8, .inl u))]) hP hD [0, 1, 2] [] rfl rfl (by decide) (by decide) hk1 hFc hP1 hD1
    generalize H1 = H at hP hS ⊢
    have hP : va_P (dC, dI) vwCl [(h0, .inr (2, [.int ka, .int kb, .int kc, .int kd, .int 1, .int en])), (qi, .inl (cI, 8, .inl fi)), (qo, .inl (cO, 8, .inl u))] H := hP
    have hD : va_D A [(h0, .inr (2, [.int ka, .int kb, .int kc, .int kd, .int 1, .int en])), (qi, .inl (cI, 8, .inl fi)), (qo, .inl (cO, 8, .inl u))] := hD
    have hw2 : (tq_w u 0, tq_w u 4) = if en = 0 then tq_tD ka kb kc kd 32 (-957401312) (tq_w fi 0) (tq_w fi 4) else tq_tE ka kb kc kd 32 0 (tq_w fi 0) (tq_w fi 4) := hw.trans (if_pos h9).symm
    have hP9 := hP.sub (ws' := [(h0, .inr (2, [.int ka, .int kb, .int kc, .int kd, .int 1, .int en])), (qi, .inl (cI, 8, .inl fi)), (qo, .inl (cO, 8, .inl u))]) [0, 1, 2] rfl
    have hD9 := hD.sub (ws' := [(h0, .inr (2, [.int ka, .int kb, .int kc, .int kd, .int 1, .int en])), (qi, .inl (cI, 8, .inl fi)), (qo, .inl (cO, 8, .inl u))]) [0, 1, 2] (by decide) rfl
    have hK9 := hK.sub (tys' := [(cI, .byte), (cO, .byte)]) [0, 1] rfl
    exact W.iret hx hb hr (fun t ht hW => ⟨⟨_, u, rfl, hw2, by rw [ht]; exact hP9, va_K.moved hW.alike hK9, hD9⟩, hS.F ht⟩) hS.2.2 dX2_processBlock_84
  · refine lv_aload_n hx hb dX2_processBlock_63 rfl (lv_at hl 0 rfl) ?_
    refine lv_aload_n hx hb dX2_processBlock_64 rfl (lv_at hl 1 rfl) ?_
    refine lv_iload_n hx hb dX2_processBlock_65 rfl (lv_at hl 2 rfl) ?_
    refine lv_aload_n hx hb dX2_processBlock_66 rfl (lv_at hl 3 rfl) ?_
    refine lv_iload hx hb dX2_processBlock_67 (lv_at hl 4 rfl) ?_
    have hPc := hP.sub (ws' := [(h0, .inr (2, [.int ka, .int kb, .int kc, .int kd, .int 1, .int en])), (qi, .inl (cI, 8, .inl fi)), (qo, .inl (cO, 8, .inl fo))]) [0, 1, 2] rfl
    have hDc := hD.sub (ws' := [(h0, .inr (2, [.int ka, .int kb, .int kc, .int kd, .int 1, .int en])), (qi, .inl (cI, 8, .inl fi)), (qo, .inl (cO, 8, .inl fo))]) [0, 1, 2] (by decide) rfl
    have hKc := hK.sub (tys' := [(cI, .byte), (cO, .byte)]) [0, 1] rfl
    have hFc := va_free (wc := [(h0, .inr (2, [.int ka, .int kb, .int kc, .int kd, .int 1, .int en])), (qi, .inl (cI, 8, .inl fi)), (qo, .inl (cO, 8, .inl fo))]) hD hS hA [0, 1, 2] rfl
    refine va_calli (va_runV (As := [.ref qi, .int (nI 0), .ref qo, .int (nI 0)]) (rest := []) ⟨hx, hb, hml, hown, hts⟩ (metX2_encryptBlock l dC dI h0 qi qo ka kb kc kd 1 en cI cO fi fo s.heap.size) (cwV 4 hts (lw_V q313 q315 qs6 q19 q316) rfl rfl rfl (by decide +kernel) ⟨Nat.le_of_ble_eq_true rfl, Nat.le_of_ble_eq_true rfl⟩) ⟨fun a U g mk q => by obtain ⟨q0, q1, qP, qK, qD⟩ := q; exact ⟨q0, q1, qP, va_K.moved (u := U) (U := U.calling g mk a) (Vm.Alike.refl U.vm) qK, qD⟩, va_recv hK hP (ci := 2) (q0 := 0) rfl rfl, fun U hU hW => ⟨rfl, by rw [hU], by rw [hU]; exact hPc, va_K.moved hW.alike hKc, hDc.weaken (fun _ _ _ _ => trivial)⟩⟩ rfl rfl hl.1 rfl (lv_room (Nat.le_of_ble_eq_true rfl)) dX2_processBlock_69 ⟨Nat.le_of_ble_eq_true rfl, Nat.le_of_ble_eq_true rfl⟩) hS (fun q _ h => hFc q h) hFc (fun r1 u t H1 locs ht hvm hw hB hzz hk1 hS => ?_)
    obtain ⟨hP1, hK1, hD1⟩ := hB
    rw [ht] at hP1
    obtain ⟨hP, hD⟩ := va_join (wr := []) (w1 := [(h0, .inr (2, [.int ka, .int kb, .int kc, .int kd, .int 1, .int en])), (qi, .inl (cI, 8, .inl fi)), (qo, .inl (cO, 8, .inl u))]) hP hD [0, 1, 2] [] rfl rfl (by decide) (by decide) hk1 hFc hP1 hD1
    generalize H1 = H at hP hS ⊢
    have hP : va_P (dC, dI) vwCl [(h0, .inr (2, [.int ka, .int kb, .int kc, .int kd, .int 1, .int en])), (qi, .inl (cI, 8, .inl fi)), (qo, .inl (cO, 8, .inl u))] H := hP
    have hD : va_D A [(h0, .inr (2, [.int ka, .int kb, .int kc, .int kd, .int 1, .int en])), (qi, .inl (cI, 8, .inl fi)), (qo, .inl (cO, 8, .inl u))] := hD
    refine lv_goto (tgt := 84) hx hb dX2_processBlock_72 (by decide) ?_
    have hw2 : (tq_w u 0, tq_w u 4) = if en = 0 then tq_tD ka kb kc kd 32 (-957401312) (tq_w fi 0) (tq_w fi 4) else tq_tE ka kb kc kd 32 0 (tq_w fi 0) (tq_w fi 4) := hw.trans (if_neg h9).symm
    have hP9 := hP.sub (ws' := [(h0, .inr (2, [.int ka, .int kb, .int kc, .int kd, .int 1, .int en])), (qi, .inl (cI, 8, .inl fi)), (qo, .inl (cO, 8, .inl u))]) [0, 1, 2] rfl
    have hD9 := hD.sub (ws' := [(h0, .inr (2, [.int ka, .int kb, .int kc, .int kd, .int 1, .int en])), (qi, .inl (cI, 8, .inl fi)), (qo, .inl (cO, 8, .inl u))]) [0, 1, 2] (by decide) rfl
    have hK9 := hK.sub (tys' := [(cI, .byte), (cO, .byte)]) [0, 1] rfl
    exact W.iret hx hb hr (fun t ht hW => ⟨⟨_, u, rfl, hw2, by rw [ht]; exact hP9, va_K.moved hW.alike hK9, hD9⟩, hS.F ht⟩) hS.2.2 dX2_processBlock_84
end
section
/-! XTEAEngine -/
set_option maxHeartbeats 4000000 in
set_option maxRecDepth 100000 in
/-- XTEAEngine() -/
theorem metX3_init (l : Launch) (dC : Nat → ClassId) (dI : Nat → Nat → Nat) (h0 sz : Nat) : Met l yX3_init (ws_ yX3_init cX3_init 1 none) ({ frames := 1, cells := 3, slots := 68, locals := 12 }) (va_Pc [.ref h0] (fun U => U.heap.size = sz ∧ va_P (dC, dI) vwCl [(h0, .inr (3, [.null, .null, .null, .int 0, .int 0]))] U.heap ∧ va_K (dC, dI) vwCl [] U ∧ va_D (fun _ => True) [(h0, .inr (3, [.null, .null, .null, .int 0, .int 0]))])) (va_Qv (fun _ : Unit => True) (fun _ t => ∃ (qS qA qB : Nat) (cS cA cD : ClassId), va_P (dC, dI) vwCl [(h0, .inr (3, [.ref qS, .ref qA, .ref qB, .int 0, .int 0])), (qS, .inl (cS, 4, .inl (fun _ => 0))), (qA, .inl (cA, 32, .inl (fun _ => 0))), (qB, .inl (cD, 32, .inl (fun _ => 0)))] t.heap ∧ va_K (dC, dI) vwCl [(cS, .int), (cA, .int), (cD, .int)] t ∧ va_D (va_A [(h0, .inr (3, [.null, .null, .null, .int 0, .int 0]))] sz) [(h0, .inr (3, [.ref qS, .ref qA, .ref qB, .int 0, .int 0])), (qS, .inl (cS, 4, .inl (fun _ => 0))), (qA, .inl (cA, 32, .inl (fun _ => 0))), (qB, .inl (cD, 32, .inl (fun _ => 0)))]) (va_A [(h0, .inr (3, [.null, .null, .null, .int 0, .int 0]))] sz)) 3 68 (va_A [(h0, .inr (3, [.null, .null, .null, .int 0, .int 0]))] sz) := by
  refine Met.ofW (cc := cX3_init) (maxL := 1) (ret := none) (by decide) rfl ?_
  intro p e s m args below meth c s₁ B hml hv
  obtain ⟨rfl, hsz, hP, hK, hD0⟩ := hv
  have hx := B.exec
  have hb := B.bytes
  have hr := B.returns
  have hts := atoms_spec (ws := ws_ yX3_init cX3_init 1 none) B.pre
  have hts : ∀ w ∈ lw_all, w.before _ s = true := fun w h => hts w (List.mem_cons_of_mem _ h)
  have hown : s.vm.findClass RX3 = some m.cls := findClass_of_methodNamed B.named
  have hlocks := B.notSynchronized
  have hin : meth.name = "<init>" := (name_of_methodNamed B.named B.method).1
  subst hsz
  have hD := hD0.self (sz := s.heap.size)
  generalize hAe : va_A [(h0, .inr (3, [.null, .null, .null, .int 0, .int 0]))] s.heap.size = A at hD ⊢
  have hA : ∀ q : Nat, s.heap.size ≤ q → A q := fun q h => by rw [← hAe]; exact Or.inr h
  have hS : va_S A s.heap s.heap [] := va_S.rf
  have hl := lv_entry ([.ref h0]) (n := 1) (Nat.le_of_ble_eq_true rfl)
  rw [lg_entry_eq]
  generalize (lg_sl ([.ref h0]) ++ List.replicate (1 - (lg_sl ([.ref h0])).length) Slot.unset).toArray = ls at hl ⊢
  have hl : lv_has ls 1 [(0, .ref h0)] := hl
  have hP : va_P (dC, dI) vwCl [(h0, .inr (3, [.null, .null, .null, .int 0, .int 0]))] s.heap := hP
  refine lv_aload_n hx hb dX3_init_0 rfl (lv_at hl 0 rfl) ?_
  refine W.objInit hx hb hown (hts _ q102) (hts _ q37) (hts _ q38) rfl (by rw [hml]; exact hl.1) rfl dX3_init_1 (Nat.le_of_ble_eq_true rfl) (Nat.le_of_ble_eq_true rfl) ?_
  refine W.eq (g2 := F0 m 4 ls []) rfl ?_
  refine lv_aload_n hx hb dX3_init_4 rfl (lv_at hl 0 rfl) ?_
  refine lv_iconst (v := 4) hx hb dX3_init_5 (by decide) ?_
  refine va_newa (atype := .int) (ty := .int) (N' := 4) (a0 := (4, .inl (fun _ => 0))) hx hb (hts _ q119) rfl hK hP hD hS hA (fun _ => rfl) (by decide) (by decide) (Nat.le_of_ble_eq_true rfl) (Nat.le_of_ble_eq_true rfl) (Nat.le_of_ble_eq_true rfl) dX3_init_6 (fun qS cS H hK hP hD hS => ?_)
  have hP : va_P (dC, dI) vwCl [(h0, .inr (3, [.null, .null, .null, .int 0, .int 0])), (qS, .inl (cS, 4, .inl (fun _ => 0)))] H := hP
  have hD : va_D A [(h0, .inr (3, [.null, .null, .null, .int 0, .int 0])), (qS, .inl (cS, 4, .inl (fun _ => 0)))] := hD
  have hK : va_K (dC, dI) vwCl [(cS, .int)] s := hK
  refine va_put (D := (dC, dI)) (ci := 3) (v := .ref qS) (ty := .array .int) (C := RX3) (T := TX3) (N := 5) hx hb hts in_X3 tyX3 tyX3_ok nmX3 hown hK hP hD hS 0 rfl rfl 0 (by decide) (hts _ q103) (fun _ h9 => h9) rfl (by decide +kernel) rfl rfl (Nat.le_of_ble_eq_true rfl) dX3_init_8 (fun H locs hP hD hS => ?_)
  have hP : va_P (dC, dI) vwCl [(h0, .inr (3, [.ref qS, .null, .null, .int 0, .int 0])), (qS, .inl (cS, 4, .inl (fun _ => 0)))] H := hP
  have hD : va_D A [(h0, .inr (3, [.ref qS, .null, .null, .int 0, .int 0])), (qS, .inl (cS, 4, .inl (fun _ => 0)))] := hD
  refine lv_aload_n hx hb dX3_init_11 rfl (lv_at hl 0 rfl) ?_
  refine lv_bipush (v := 32) hx hb dX3_init_12 (by decide) ?_
  refine va_newa (atype := .int) (ty := .int) (N' := 32) (a0 := (32, .inl (fun _ => 0))) hx hb (hts _ q119) rfl hK hP hD hS hA (fun _ => rfl) (by decide) (by decide) (Nat.le_of_ble_eq_true rfl) (Nat.le_of_ble_eq_true rfl) (Nat.le_of_ble_eq_true rfl) dX3_init_14 (fun qA cA H hK hP hD hS => ?_)
  have hP : va_P (dC, dI) vwCl [(h0, .inr (3, [.ref qS, .null, .null, .int 0, .int 0])), (qS, .inl (cS, 4, .inl (fun _ => 0))), (qA, .inl (cA, 32, .inl (fun _ => 0)))] H := hP
  have hD : va_D A [(h0, .inr (3, [.ref qS, .null, .null, .int 0, .int 0])), (qS, .inl (cS, 4, .inl (fun _ => 0))), (qA, .inl (cA, 32, .inl (fun _ => 0)))] := hD
  have hK : va_K (dC, dI) vwCl [(cS, .int), (cA, .int)] s := hK
  refine va_put (D := (dC, dI)) (ci := 3) (v := .ref qA) (ty := .array .int) (C := RX3) (T := TX3) (N := 5) hx hb hts in_X3 tyX3 tyX3_ok nmX3 hown hK hP hD hS 0 rfl rfl 1 (by decide) (hts _ q104) (fun _ h9 => h9) rfl (by decide +kernel) rfl rfl (Nat.le_of_ble_eq_true rfl) dX3_init_16 (fun H locs hP hD hS => ?_)
  have hP : va_P (dC, dI) vwCl [(h0, .inr (3, [.ref qS, .ref qA, .null, .int 0, .int 0])), (qS, .inl (cS, 4, .inl (fun _ => 0))), (qA, .inl (cA, 32, .inl (fun _ => 0)))] H := hP
  have hD : va_D A [(h0, .inr (3, [.ref qS, .ref qA, .null, .int 0, .int 0])), (qS, .inl (cS, 4, .inl (fun _ => 0))), (qA, .inl (cA, 32, .inl (fun _ => 0)))] := hD
  refine lv_aload_n hx hb dX3_init_19 rfl (lv_at hl 0 rfl) ?_
  refine lv_bipush (v := 32) hx hb dX3_init_20 (by decide) ?_
  refine va_newa (atype := .int) (ty := .int) (N' := 32) (a0 := (32, .inl (fun _ => 0))) hx hb (hts _ q119) rfl hK hP hD hS hA (fun _ => rfl) (by decide) (by decide) (Nat.le_of_ble_eq_true rfl) (Nat.le_of_ble_eq_true rfl) (Nat.le_of_ble_eq_true rfl) dX3_init_22 (fun qB cD H hK hP hD hS => ?_)
  have hP : va_P (dC, dI) vwCl [(h0, .inr (3, [.ref qS, .ref qA, .null, .int 0, .int 0])), (qS, .inl (cS, 4, .inl (fun _ => 0))), (qA, .inl (cA, 32, .inl (fun _ => 0))), (qB, .inl (cD, 32, .inl (fun _ => 0)))] H := hP
  have hD : va_D A [(h0, .inr (3, [.ref qS, .ref qA, .null, .int 0, .int 0])), (qS, .inl (cS, 4, .inl (fun _ => 0))), (qA, .inl (cA, 32, .inl (fun _ => 0))), (qB, .inl (cD, 32, .inl (fun _ => 0)))] := hD
  have hK : va_K (dC, dI) vwCl [(cS, .int), (cA, .int), (cD, .int)] s := hK
  refine va_put (D := (dC, dI)) (ci := 3) (v := .ref qB) (ty := .array .int) (C := RX3) (T := TX3) (N := 5) hx hb hts in_X3 tyX3 tyX3_ok nmX3 hown hK hP hD hS 0 rfl rfl 2 (by decide) (hts _ q105) (fun _ h9 => h9) rfl (by decide +kernel) rfl rfl (Nat.le_of_ble_eq_true rfl) dX3_init_24 (fun H locs hP hD hS => ?_)
  have hP : va_P (dC, dI) vwCl [(h0, .inr (3, [.ref qS, .ref qA, .ref qB, .int 0, .int 0])), (qS, .inl (cS, 4, .inl (fun _ => 0))), (qA, .inl (cA, 32, .inl (fun _ => 0))), (qB, .inl (cD, 32, .inl (fun _ => 0)))] H := hP
  have hD : va_D A [(h0, .inr (3, [.ref qS, .ref qA, .ref qB, .int 0, .int 0])), (qS, .inl (cS, 4, .inl (fun _ => 0))), (qA, .inl (cA, 32, .inl (fun _ => 0))), (qB, .inl (cD, 32, .inl (fun _ => 0)))] := hD
  refine lv_aload_n hx hb dX3_init_27 rfl (lv_at hl 0 rfl) ?_
  refine lv_iconst (v := 0) hx hb dX3_init_28 (by decide) ?_
  refine va_put (D := (dC, dI)) (ci := 3) (v := .int 0) (ty := .boolean) (C := RX3) (T := TX3) (N := 5) hx hb hts in_X3 tyX3 tyX3_ok nmX3 hown hK hP hD hS 0 rfl rfl 3 (by decide) (hts _ q106) (fun _ h9 => h9) rfl (by decide +kernel) rfl rfl (Nat.le_of_ble_eq_true rfl) dX3_init_29 (fun H locs hP hD hS => ?_)
  have hP : va_P (dC, dI) vwCl [(h0, .inr (3, [.ref qS, .ref qA, .ref qB, .int 0, .int 0])), (qS, .inl (cS, 4, .inl (fun _ => 0))), (qA, .inl (cA, 32, .inl (fun _ => 0))), (qB, .inl (cD, 32, .inl (fun _ => 0)))] H := hP
  have hD : va_D A [(h0, .inr (3, [.ref qS, .ref qA, .ref qB, .int 0, .int 0])), (qS, .inl (cS, 4, .inl (fun _ => 0))), (qA, .inl (cA, 32, .inl (fun _ => 0))), (qB, .inl (cD, 32, .inl (fun _ => 0)))] := hD
  have hP9 := hP.sub (ws' := [(h0, .inr (3, [.ref qS, .ref qA, .ref qB, .int 0, .int 0])), (qS, .inl (cS, 4, .inl (fun _ => 0))), (qA, .inl (cA, 32, .inl (fun _ => 0))), (qB, .inl (cD, 32, .inl (fun _ => 0)))]) [0, 1, 2, 3] rfl
  have hD9 := hD.sub (ws' := [(h0, .inr (3, [.ref qS, .ref qA, .ref qB, .int 0, .int 0])), (qS, .inl (cS, 4, .inl (fun _ => 0))), (qA, .inl (cA, 32, .inl (fun _ => 0))), (qB, .inl (cD, 32, .inl (fun _ => 0)))]) [0, 1, 2, 3] (by decide) rfl
  have hK9 := hK.sub (tys' := [(cS, .int), (cA, .int), (cD, .int)]) [0, 1, 2] rfl
  exact W.vret hx hb hr (fun t ht hW => ⟨⟨(), rfl, trivial, qS, qA, qB, cS, cA, cD, by rw [ht]; exact hP9, va_K.moved hW.alike hK9, hD9⟩, hS.F ht⟩) hS.2.2 dX3_init_32
set_option maxHeartbeats 4000000 in
set_option maxRecDepth 100000 in
/-- the key's words: n are left -/
theorem lpX3_key {p : Program} {l : Launch} {e : Env} {R : Room} {s : State} {m : MethodId} {args : Array Value} {below : List Frame} {meth : Method} {c : Code} {cells slots : Nat} {Q : State → Prop} {dC : Nat → ClassId} {dI : Nat → Nat → Nat} {A : Nat → Prop} {H0 : Heap} {h0 qS qA qB a : Nat} {ini fe : Int32} {cS cA cD cB : ClassId} {f : Nat → Int32} {gA gB : Nat → Int32} (hx : p.tables.exec = Jvm.exec) (hb : c.code = cX3_setKey) (hml : c.maxLocals = 4) (hown : s.vm.findClass RX3 = some m.cls) (hts : ∀ w ∈ lw_all, w.before args s = true) (hR : 1 ≤ R.frames ∧ 22 ≤ R.locals) (hC : cells ≤ R.cells ∧ slots ≤ R.slots) (hK : va_K (dC, dI) vwCl [(cS, .int), (cA, .int), (cD, .int), (cB, .byte)] s)
    (kk : ∀ (S : Nat → Int32) (H : Heap) (locs : List Loc), (∀ j, j < 4 → S j = tq_w f (4 * j)) → va_P (dC, dI) vwCl [(h0, .inr (3, [.ref qS, .ref qA, .ref qB, .int ini, .int fe])), (qS, .inl (cS, 4, .inl S)), (qA, .inl (cA, 32, .inl gA)), (qB, .inl (cD, 32, .inl gB)), (a, .inl (cB, 16, .inl f))] H → va_D A [(h0, .inr (3, [.ref qS, .ref qA, .ref qB, .int ini, .int fe])), (qS, .inl (cS, 4, .inl S)), (qA, .inl (cA, 32, .inl gA)), (qB, .inl (cD, 32, .inl gB)), (a, .inl (cB, 16, .inl f))] → va_S A H0 H locs → ∀ ls : Array Slot, lv_has ls 4 [(0, .ref h0), (1, .ref a)] → W p l e R s m args below meth c H locs cells slots Q (F0 m 47 ls [])) :
    ∀ (n i : Nat) (S : Nat → Int32) (H : Heap) (locs : List Loc), i + n = 4 → (∀ j, j < i → S j = tq_w f (4 * j)) → va_P (dC, dI) vwCl [(h0, .inr (3, [.ref qS, .ref qA, .ref qB, .int ini, .int fe])), (qS, .inl (cS, 4, .inl S)), (qA, .inl (cA, 32, .inl gA)), (qB, .inl (cD, 32, .inl gB)), (a, .inl (cB, 16, .inl f))] H → va_D A [(h0, .inr (3, [.ref qS, .ref qA, .ref qB, .int ini, .int fe])), (qS, .inl (cS, 4, .inl S)), (qA, .inl (cA, 32, .inl gA)), (qB, .inl (cD, 32, .inl gB)), (a, .inl (cB, 16, .inl f))] → va_S A H0 H locs → ∀ ls : Array Slot, lv_has ls 4 [(0, .ref h0), (1, .ref a), (2, .int (nI i)), (3, .int (nI (4 * i)))] → W p l e R s m args below meth c H locs cells slots Q (F0 m 21 ls []) := by
  intro n
  induction n with
  | zero =>
    intro i S H locs hi hv hP hD hS ls hl
    obtain rfl : i = 4 := by omega
    refine lv_iload_n hx hb dX3_setKey_21 rfl (lv_at hl 2 rfl) ?_
    refine lv_iconst (v := 4) hx hb dX3_setKey_22 (by decide) ?_
    exact lv_icmp_ge (tgt := 47) hx hb dX3_setKey_23 (by decide) (fun _ => kk S H locs hv hP hD hS ls (lv_sub hl [0, 1] rfl)) (fun h9 => absurd (by decide +kernel) h9)
  | succ n ih =>
    intro i S H locs hi hv hP hD hS ls hl
    refine lv_iload_n hx hb dX3_setKey_21 rfl (lv_at hl 2 rfl) ?_
    refine lv_iconst (v := 4) hx hb dX3_setKey_22 (by decide) ?_
    refine lv_icmp_ge (tgt := 47) hx hb dX3_setKey_23 (by decide) (fun h9 => absurd h9 (nI_ge (a := i) (b := 4) (by omega) (by omega))) (fun _ => ?_)
    refine lv_aload_n hx hb dX3_setKey_26 rfl (lv_at hl 0 rfl) ?_
    refine va_get (D := (dC, dI)) (ci := 3) (v := .ref qS) (C := RX3) (T := TX3) (N := 5) hx hb hts in_X3 hown hK hP 0 rfl rfl 0 (by decide) (hts _ q103) (fun _ h9 => h9) rfl dX3_setKey_27 ?_
    refine lv_iload_n hx hb dX3_setKey_30 rfl (lv_at hl 2 rfl) ?_
    refine lv_aload_n hx hb dX3_setKey_31 rfl (lv_at hl 0 rfl) ?_
    refine lv_aload_n hx hb dX3_setKey_32 rfl (lv_at hl 1 rfl) ?_
    refine lv_iload_n hx hb dX3_setKey_33 rfl (lv_at hl 3 rfl) ?_
    have hPc := hP.sub (ws' := [(a, .inl (cB, 16, .inl f))]) [4] rfl
    have hKc := hK.sub (tys' := [(cB, .byte)]) [3] rfl
    refine vp_callSi (W.runV (As := [.ref a, .int (nI (4 * i))]) (rest := [.int (nI i), .ref qS]) ⟨hx, hb, hml, hown, hts⟩ (metX3_bytesToInt l dC dI h0 a cB 16 f (4 * i) (by omega) (by omega)) (cwV 2 hts (lw_V q247 q249 qs5 q20 q250) rfl rfl rfl (by decide +kernel) hR) ⟨fun a U g mk q => by obtain ⟨q0, qP, qK⟩ := q; exact ⟨q0, qP, va_K.moved (u := U) (U := U.calling g mk a) (Vm.Alike.refl U.vm) qK⟩, va_recv hK hP (ci := 3) (q0 := 0) rfl rfl, fun U hU hW => ⟨rfl, by rw [hU]; exact hPc, va_K.moved hW.alike hKc⟩⟩ rfl rfl hl.1 rfl (lv_room (Nat.le_of_ble_eq_true rfl)) dX3_setKey_34 hC) (fun z hz => ?_)
    refine tk_ist (x := z) hx hb hK hP hD hS 1 0 rfl rfl (i) (by omega) (by omega) dX3_setKey_37 (fun H locs hP hD hS => ?_)
    have hP : va_P (dC, dI) vwCl [(h0, .inr (3, [.ref qS, .ref qA, .ref qB, .int ini, .int fe])), (qS, .inl (cS, 4, .inl (upd S i z))), (qA, .inl (cA, 32, .inl gA)), (qB, .inl (cD, 32, .inl gB)), (a, .inl (cB, 16, .inl f))] H := hP
    have hD : va_D A [(h0, .inr (3, [.ref qS, .ref qA, .ref qB, .int ini, .int fe])), (qS, .inl (cS, 4, .inl (upd S i z))), (qA, .inl (cA, 32, .inl gA)), (qB, .inl (cD, 32, .inl gB)), (a, .inl (cB, 16, .inl f))] := hD
    obtain ⟨S1, eS1⟩ : ∃ g_9 : Nat → Int32, g_9 = upd S i z := ⟨_, rfl⟩
    rw [← eS1] at hP hD
    refine lv_iinc (v := nI (i + 1)) (lv' := [(2, .int (nI (i + 1))), (0, .ref h0), (1, .ref a), (3, .int (nI (4 * i)))]) hx hb dX3_setKey_38 hl (k := 2) rfl (tk_inc i) (by decide) rfl (fun ls hl => ?_)
    refine lv_iinc (v := nI (4 * (i + 1))) (lv' := [(3, .int (nI (4 * (i + 1)))), (2, .int (nI (i + 1))), (0, .ref h0), (1, .ref a)]) hx hb dX3_setKey_41 hl (k := 3) rfl (by rw [show 4 * (i + 1) = 4 * i + 4 by omega]; exact tk_inc4 (4 * i)) (by decide) rfl (fun ls hl => ?_)
    refine lv_goto (tgt := 21) hx hb dX3_setKey_44 (by decide) ?_
    refine ih (i + 1) S1 H locs (by omega) (fun j hj => ?_) hP hD hS ls (lv_sub hl [2, 3, 1, 0] rfl)
    rw [eS1]
    rcases Nat.lt_or_ge j i with h9 | h9
    · rw [tq_un _ _ (by omega)]; exact hv j h9
    · obtain rfl : j = i := by omega
      rw [tq_up, hz]
set_option maxHeartbeats 4000000 in
set_option maxRecDepth 100000 in
/-- the sums: n are left -/
theorem lpX3_sum {p : Program} {l : Launch} {e : Env} {R : Room} {s : State} {m : MethodId} {args : Array Value} {below : List Frame} {meth : Method} {c : Code} {cells slots : Nat} {Q : State → Prop} {dC : Nat → ClassId} {dI : Nat → Nat → Nat} {A : Nat → Prop} {H0 : Heap} {h0 qS qA qB a : Nat} {ini fe : Int32} {cS cA cD cB : ClassId} {f : Nat → Int32} {S : Nat → Int32} (hx : p.tables.exec = Jvm.exec) (hb : c.code = cX3_setKey) (hml : c.maxLocals = 4) (hown : s.vm.findClass RX3 = some m.cls) (hts : ∀ w ∈ lw_all, w.before args s = true) (hS4 : ∀ j, j < 4 → S j = (fun j => tq_w f (4 * j)) j) (hK : va_K (dC, dI) vwCl [(cS, .int), (cA, .int), (cD, .int), (cB, .byte)] s)
    (kk : ∀ (gA gB : Nat → Int32) (H : Heap) (locs : List Loc), (∀ j, j < 32 → gA j = tq_kE (fun j => tq_w f (4 * j)) (tq_s j) ∧ gB j = tq_kO (fun j => tq_w f (4 * j)) (tq_s (j + 1))) → va_P (dC, dI) vwCl [(h0, .inr (3, [.ref qS, .ref qA, .ref qB, .int ini, .int fe])), (qS, .inl (cS, 4, .inl S)), (qA, .inl (cA, 32, .inl gA)), (qB, .inl (cD, 32, .inl gB)), (a, .inl (cB, 16, .inl f))] H → va_D A [(h0, .inr (3, [.ref qS, .ref qA, .ref qB, .int ini, .int fe])), (qS, .inl (cS, 4, .inl S)), (qA, .inl (cA, 32, .inl gA)), (qB, .inl (cD, 32, .inl gB)), (a, .inl (cB, 16, .inl f))] → va_S A H0 H locs → ∀ ls : Array Slot, W p l e R s m args below meth c H locs cells slots Q (F0 m 103 ls [])) :
    ∀ (n i : Nat) (gA gB : Nat → Int32) (H : Heap) (locs : List Loc), i + n = 32 → (∀ j, j < i → gA j = tq_kE (fun j => tq_w f (4 * j)) (tq_s j) ∧ gB j = tq_kO (fun j => tq_w f (4 * j)) (tq_s (j + 1))) → va_P (dC, dI) vwCl [(h0, .inr (3, [.ref qS, .ref qA, .ref qB, .int ini, .int fe])), (qS, .inl (cS, 4, .inl S)), (qA, .inl (cA, 32, .inl gA)), (qB, .inl (cD, 32, .inl gB)), (a, .inl (cB, 16, .inl f))] H → va_D A [(h0, .inr (3, [.ref qS, .ref qA, .ref qB, .int ini, .int fe])), (qS, .inl (cS, 4, .inl S)), (qA, .inl (cA, 32, .inl gA)), (qB, .inl (cD, 32, .inl gB)), (a, .inl (cB, 16, .inl f))] → va_S A H0 H locs → ∀ ls : Array Slot, lv_has ls 4 [(0, .ref h0), (2, .int (nI i)), (3, .int (tq_s i))] → W p l e R s m args below meth c H locs cells slots Q (F0 m 51 ls []) := by
  intro n
  induction n with
  | zero =>
    intro i gA gB H locs hi hv hP hD hS ls hl
    obtain rfl : i = 32 := by omega
    refine lv_iload_n hx hb dX3_setKey_51 rfl (lv_at hl 1 rfl) ?_
    refine lv_bipush (v := 32) hx hb dX3_setKey_52 (by decide) ?_
    exact lv_icmp_ge (tgt := 103) hx hb dX3_setKey_54 (by decide) (fun _ => kk gA gB H locs hv hP hD hS ls) (fun h9 => absurd (by decide +kernel) h9)
  | succ n ih =>
    intro i gA gB H locs hi hv hP hD hS ls hl
    refine lv_iload_n hx hb dX3_setKey_51 rfl (lv_at hl 1 rfl) ?_
    refine lv_bipush (v := 32) hx hb dX3_setKey_52 (by decide) ?_
    refine lv_icmp_ge (tgt := 103) hx hb dX3_setKey_54 (by decide) (fun h9 => absurd h9 (nI_ge (a := i) (b := 32) (by omega) (by omega))) (fun _ => ?_)
    refine lv_aload_n hx hb dX3_setKey_57 rfl (lv_at hl 0 rfl) ?_
    refine va_get (D := (dC, dI)) (ci := 3) (v := .ref qA) (C := RX3) (T := TX3) (N := 5) hx hb hts in_X3 hown hK hP 0 rfl rfl 1 (by decide) (hts _ q104) (fun _ h9 => h9) rfl dX3_setKey_58 ?_
    refine lv_iload_n hx hb dX3_setKey_61 rfl (lv_at hl 1 rfl) ?_
    refine lv_iload_n hx hb dX3_setKey_62 rfl (lv_at hl 2 rfl) ?_
    refine lv_aload_n hx hb dX3_setKey_63 rfl (lv_at hl 0 rfl) ?_
    refine va_get (D := (dC, dI)) (ci := 3) (v := .ref qS) (C := RX3) (T := TX3) (N := 5) hx hb hts in_X3 hown hK hP 0 rfl rfl 0 (by decide) (hts _ q103) (fun _ h9 => h9) rfl dX3_setKey_64 ?_
    refine lv_iload_n hx hb dX3_setKey_67 rfl (lv_at hl 2 rfl) ?_
    refine lv_iconst (v := 3) hx hb dX3_setKey_68 (by decide) ?_
    refine lv_iand hx hb dX3_setKey_69 ?_
    refine va_iald hx hb hK hP 1 0 rfl rfl (tq_3 _) dX3_setKey_70 ?_
    refine lv_iadd hx hb dX3_setKey_71 ?_
    refine tk_ist (x := ((tq_s i) + (S ((tq_s i) &&& 3).toNatClampNeg))) hx hb hK hP hD hS 2 1 rfl rfl (i) (by omega) (by omega) dX3_setKey_72 (fun H locs hP hD hS => ?_)
    have hP : va_P (dC, dI) vwCl [(h0, .inr (3, [.ref qS, .ref qA, .ref qB, .int ini, .int fe])), (qS, .inl (cS, 4, .inl S)), (qA, .inl (cA, 32, .inl (upd gA i ((tq_s i) + (S ((tq_s i) &&& 3).toNatClampNeg))))), (qB, .inl (cD, 32, .inl gB)), (a, .inl (cB, 16, .inl f))] H := hP
    have hD : va_D A [(h0, .inr (3, [.ref qS, .ref qA, .ref qB, .int ini, .int fe])), (qS, .inl (cS, 4, .inl S)), (qA, .inl (cA, 32, .inl (upd gA i ((tq_s i) + (S ((tq_s i) &&& 3).toNatClampNeg))))), (qB, .inl (cD, 32, .inl gB)), (a, .inl (cB, 16, .inl f))] := hD
    obtain ⟨gA1, egA1⟩ : ∃ g_9 : Nat → Int32, g_9 = upd gA i ((tq_s i) + (S ((tq_s i) &&& 3).toNatClampNeg)) := ⟨_, rfl⟩
    rw [← egA1] at hP hD
    refine lv_iload_n hx hb dX3_setKey_73 rfl (lv_at hl 2 rfl) ?_
    refine lv_ldc (v := 1640531527) hx hb hown (hts _ q251) dX3_setKey_74 ?_
    refine lv_isub hx hb dX3_setKey_76 ?_
    refine tk_as (tq_s (i + 1)) (tq_sm (tq_s i)) ?_
    refine lv_istore_n (lv' := [(3, .int (tq_s (i + 1))), (0, .ref h0), (2, .int (nI i))]) hx hb dX3_setKey_77 rfl hl (by decide) rfl (fun ls hl => ?_)
    refine lv_aload_n hx hb dX3_setKey_78 rfl (lv_at hl 1 rfl) ?_
    refine va_get (D := (dC, dI)) (ci := 3) (v := .ref qB) (C := RX3) (T := TX3) (N := 5) hx hb hts in_X3 hown hK hP 0 rfl rfl 2 (by decide) (hts _ q105) (fun _ h9 => h9) rfl dX3_setKey_79 ?_
    refine lv_iload_n hx hb dX3_setKey_82 rfl (lv_at hl 2 rfl) ?_
    refine lv_iload_n hx hb dX3_setKey_83 rfl (lv_at hl 0 rfl) ?_
    refine lv_aload_n hx hb dX3_setKey_84 rfl (lv_at hl 1 rfl) ?_
    refine va_get (D := (dC, dI)) (ci := 3) (v := .ref qS) (C := RX3) (T := TX3) (N := 5) hx hb hts in_X3 hown hK hP 0 rfl rfl 0 (by decide) (hts _ q103) (fun _ h9 => h9) rfl dX3_setKey_85 ?_
    refine lv_iload_n hx hb dX3_setKey_88 rfl (lv_at hl 0 rfl) ?_
    refine lv_bipush (v := 11) hx hb dX3_setKey_89 (by decide) ?_
    refine lv_iushr (v := ((tq_s (i + 1)).toUInt32 >>> ((11 : Int32).toUInt32 &&& Int32.toUInt32 31)).toInt32) hx hb dX3_setKey_91 rfl ?_
    refine lv_iconst (v := 3) hx hb dX3_setKey_92 (by decide) ?_
    refine lv_iand hx hb dX3_setKey_93 ?_
    refine va_iald hx hb hK hP 1 0 rfl rfl (tq_3 _) dX3_setKey_94 ?_
    refine lv_iadd hx hb dX3_setKey_95 ?_
    refine tk_ist (x := ((tq_s (i + 1)) + (S ((((tq_s (i + 1)).toUInt32 >>> ((11 : Int32).toUInt32 &&& Int32.toUInt32 31)).toInt32) &&& 3).toNatClampNeg))) hx hb hK hP hD hS 3 2 rfl rfl (i) (by omega) (by omega) dX3_setKey_96 (fun H locs hP hD hS => ?_)
    have hP : va_P (dC, dI) vwCl [(h0, .inr (3, [.ref qS, .ref qA, .ref qB, .int ini, .int fe])), (qS, .inl (cS, 4, .inl S)), (qA, .inl (cA, 32, .inl gA1)), (qB, .inl (cD, 32, .inl (upd gB i ((tq_s (i + 1)) + (S ((((tq_s (i + 1)).toUInt32 >>> ((11 : Int32).toUInt32 &&& Int32.toUInt32 31)).toInt32) &&& 3).toNatClampNeg))))), (a, .inl (cB, 16, .inl f))] H := hP
    have hD : va_D A [(h0, .inr (3, [.ref qS, .ref qA, .ref qB, .int ini, .int fe])), (qS, .inl (cS, 4, .inl S)), (qA, .inl (cA, 32, .inl gA1)), (qB, .inl (cD, 32, .inl (upd gB i ((tq_s (i + 1)) + (S ((((tq_s (i + 1)).toUInt32 >>> ((11 : Int32).toUInt32 &&& Int32.toUInt32 31)).toInt32) &&& 3).toNatClampNeg))))), (a, .inl (cB, 16, .inl f))] := hD
    obtain ⟨gB1, egB1⟩ : ∃ g_9 : Nat → Int32, g_9 = upd gB i ((tq_s (i + 1)) + (S ((((tq_s (i + 1)).toUInt32 >>> ((11 : Int32).toUInt32 &&& Int32.toUInt32 31)).toInt32) &&& 3).toNatClampNeg)) := ⟨_, rfl⟩
    rw [← egB1] at hP hD
    refine lv_iinc (v := nI (i + 1)) (lv' := [(2, .int (nI (i + 1))), (3, .int (tq_s (i + 1))), (0, .ref h0)]) hx hb dX3_setKey_97 hl (k := 2) rfl (tk_inc i) (by decide) rfl (fun ls hl => ?_)
    refine lv_goto (tgt := 51) hx hb dX3_setKey_100 (by decide) ?_
    refine ih (i + 1) gA1 gB1 H locs (by omega) (fun j hj => ?_) hP hD hS ls (lv_sub hl [2, 0, 1] rfl)
    rw [egA1, egB1]
    rcases Nat.lt_or_ge j i with h9 | h9
    · rw [tq_un _ _ (by omega), tq_un _ _ (by omega)]; exact hv j h9
    · obtain rfl : j = i := by omega
      rw [tq_up, tq_up]
      exact ⟨tq_kE_cg hS4 (tq_s j), tq_kO_cg hS4 (tq_s (j + 1))⟩
set_option maxHeartbeats 4000000 in
set_option maxRecDepth 100000 in
/-- setKey: the words and the sums -/
theorem metX3_setKey (l : Launch) (dC : Nat → ClassId) (dI : Nat → Nat → Nat) (h0 qS qA qB a : Nat) (ini fe : Int32) (cS cA cD cB : ClassId) (S gA gB f : Nat → Int32) (sz : Nat) : Met l yX3_setKey (ws_ yX3_setKey cX3_setKey 4 none) ({ frames := 1, cells := 0, slots := 0, locals := 30 }) (va_Pc [.ref h0, .ref a] (fun U => U.heap.size = sz ∧ va_P (dC, dI) vwCl [(h0, .inr (3, [.ref qS, .ref qA, .ref qB, .int ini, .int fe])), (qS, .inl (cS, 4, .inl S)), (qA, .inl (cA, 32, .inl gA)), (qB, .inl (cD, 32, .inl gB)), (a, .inl (cB, 16, .inl f))] U.heap ∧ va_K (dC, dI) vwCl [(cS, .int), (cA, .int), (cD, .int), (cB, .byte)] U ∧ va_D (fun _ => True) [(h0, .inr (3, [.ref qS, .ref qA, .ref qB, .int ini, .int fe])), (qS, .inl (cS, 4, .inl S)), (qA, .inl (cA, 32, .inl gA)), (qB, .inl (cD, 32, .inl gB)), (a, .inl (cB, 16, .inl f))])) (va_Qv (fun u : (Nat → Int32) × (Nat → Int32) × (Nat → Int32) => ∀ j, j < 32 → u.2.1 j = tq_kE (fun j => tq_w f (4 * j)) (tq_s j) ∧ u.2.2 j = tq_kO (fun j => tq_w f (4 * j)) (tq_s (j + 1))) (fun u t => va_P (dC, dI) vwCl [(h0, .inr (3, [.ref qS, .ref qA, .ref qB, .int ini, .int fe])), (qS, .inl (cS, 4, .inl u.1)), (qA, .inl (cA, 32, .inl u.2.1)), (qB, .inl (cD, 32, .inl u.2.2)), (a, .inl (cB, 16, .inl f))] t.heap ∧ va_K (dC, dI) vwCl [(cS, .int), (cA, .int), (cD, .int), (cB, .byte)] t ∧ va_D (va_A [(h0, .inr (3, [.ref qS, .ref qA, .ref qB, .int ini, .int fe])), (qS, .inl (cS, 4, .inl S)), (qA, .inl (cA, 32, .inl gA)), (qB, .inl (cD, 32, .inl gB)), (a, .inl (cB, 16, .inl f))] sz) [(h0, .inr (3, [.ref qS, .ref qA, .ref qB, .int ini, .int fe])), (qS, .inl (cS, 4, .inl u.1)), (qA, .inl (cA, 32, .inl u.2.1)), (qB, .inl (cD, 32, .inl u.2.2)), (a, .inl (cB, 16, .inl f))]) (va_A [(h0, .inr (3, [.ref qS, .ref qA, .ref qB, .int ini, .int fe])), (qS, .inl (cS, 4, .inl S)), (qA, .inl (cA, 32, .inl gA)), (qB, .inl (cD, 32, .inl gB)), (a, .inl (cB, 16, .inl f))] sz)) 0 0 (va_A [(h0, .inr (3, [.ref qS, .ref qA, .ref qB, .int ini, .int fe])), (qS, .inl (cS, 4, .inl S)), (qA, .inl (cA, 32, .inl gA)), (qB, .inl (cD, 32, .inl gB)), (a, .inl (cB, 16, .inl f))] sz) := by
  refine Met.ofW (cc := cX3_setKey) (maxL := 4) (ret := none) (by decide) rfl ?_
  intro p e s m args below meth c s₁ B hml hv
  obtain ⟨rfl, hsz, hP, hK, hD0⟩ := hv
  have hx := B.exec
  have hb := B.bytes
  have hr := B.returns
  have hts := atoms_spec (ws := ws_ yX3_setKey cX3_setKey 4 none) B.pre
  have hts : ∀ w ∈ lw_all, w.before _ s = true := fun w h => hts w (List.mem_cons_of_mem _ h)
  have hown : s.vm.findClass RX3 = some m.cls := findClass_of_methodNamed B.named
  have hlocks := B.notSynchronized
  subst hsz
  have hD := hD0.self (sz := s.heap.size)
  generalize hAe : va_A [(h0, .inr (3, [.ref qS, .ref qA, .ref qB, .int ini, .int fe])), (qS, .inl (cS, 4, .inl S)), (qA, .inl (cA, 32, .inl gA)), (qB, .inl (cD, 32, .inl gB)), (a, .inl (cB, 16, .inl f))] s.heap.size = A at hD ⊢
  have hA : ∀ q : Nat, s.heap.size ≤ q → A q := fun q h => by rw [← hAe]; exact Or.inr h
  have hS : va_S A s.heap s.heap [] := va_S.rf
  have hl := lv_entry ([.ref h0, .ref a]) (n := 4) (Nat.le_of_ble_eq_true rfl)
  rw [lg_entry_eq]
  generalize (lg_sl ([.ref h0, .ref a]) ++ List.replicate (4 - (lg_sl ([.ref h0, .ref a])).length) Slot.unset).toArray = ls at hl ⊢
  have hl : lv_has ls 4 [(0, .ref h0), (1, .ref a)] := hl
  have hP : va_P (dC, dI) vwCl [(h0, .inr (3, [.ref qS, .ref qA, .ref qB, .int ini, .int fe])), (qS, .inl (cS, 4, .inl S)), (qA, .inl (cA, 32, .inl gA)), (qB, .inl (cD, 32, .inl gB)), (a, .inl (cB, 16, .inl f))] s.heap := hP
  refine lv_aload_n hx hb dX3_setKey_0 rfl (lv_at hl 1 rfl) ?_
  refine va_alen (v := 16) hx hb hK hP 4 3 rfl rfl rfl dX3_setKey_1 ?_
  refine lv_bipush (v := 16) hx hb dX3_setKey_2 (by decide) ?_
  refine lv_icmp_eq (tgt := 17) hx hb dX3_setKey_4 (by decide) (fun _ => ?_) (fun h9 => absurd rfl h9)
  refine lv_iconst (v := 0) hx hb dX3_setKey_17 (by decide) ?_
  refine tk_as (nI 0) (nI_0.symm) ?_
  refine lv_dup hx hb dX3_setKey_18 rfl ?_
  refine lv_istore_n (lv' := [(3, .int (nI 0)), (0, .ref h0), (1, .ref a)]) hx hb dX3_setKey_19 rfl hl (by decide) rfl (fun ls hl => ?_)
  refine lv_istore_n (lv' := [(2, .int (nI 0)), (3, .int (nI 0)), (0, .ref h0), (1, .ref a)]) hx hb dX3_setKey_20 rfl hl (by decide) rfl (fun ls hl => ?_)
  refine lpX3_key hx hb hml hown hts ⟨Nat.le_of_ble_eq_true rfl, Nat.le_of_ble_eq_true rfl⟩ ⟨Nat.le_of_ble_eq_true rfl, Nat.le_of_ble_eq_true rfl⟩ hK (fun S H locs hS4 hP hD hS ls hl => ?_) 4 0 S s.heap [] rfl (fun j hj => absurd hj (by omega)) hP hD hS ls (lv_sub hl [2, 3, 0, 1] rfl)
  refine lv_iconst (v := 0) hx hb dX3_setKey_47 (by decide) ?_
  refine tk_as (nI 0) (nI_0.symm) ?_
  refine lv_dup hx hb dX3_setKey_48 rfl ?_
  refine tk_as (tq_s 0) (rfl) ?_
  refine lv_istore_n (lv' := [(3, .int (tq_s 0)), (0, .ref h0), (1, .ref a)]) hx hb dX3_setKey_49 rfl hl (by decide) rfl (fun ls hl => ?_)
  refine lv_istore_n (lv' := [(2, .int (nI 0)), (3, .int (tq_s 0)), (0, .ref h0), (1, .ref a)]) hx hb dX3_setKey_50 rfl hl (by decide) rfl (fun ls hl => ?_)
  refine lpX3_sum hx hb hml hown hts hS4 hK (fun gA gB H locs hv hP hD hS ls => ?_) 32 0 gA gB H locs rfl (fun j hj => absurd hj (by omega)) hP hD hS ls (lv_sub hl [2, 0, 1] rfl)
  have hP9 := hP.sub (ws' := [(h0, .inr (3, [.ref qS, .ref qA, .ref qB, .int ini, .int fe])), (qS, .inl (cS, 4, .inl S)), (qA, .inl (cA, 32, .inl gA)), (qB, .inl (cD, 32, .inl gB)), (a, .inl (cB, 16, .inl f))]) [0, 1, 2, 3, 4] rfl
  have hD9 := hD.sub (ws' := [(h0, .inr (3, [.ref qS, .ref qA, .ref qB, .int ini, .int fe])), (qS, .inl (cS, 4, .inl S)), (qA, .inl (cA, 32, .inl gA)), (qB, .inl (cD, 32, .inl gB)), (a, .inl (cB, 16, .inl f))]) [0, 1, 2, 3, 4] (by decide) rfl
  have hK9 := hK.sub (tys' := [(cS, .int), (cA, .int), (cD, .int), (cB, .byte)]) [0, 1, 2, 3] rfl
  exact W.vret hx hb hr (fun t ht hW => ⟨⟨(S, gA, gB), rfl, hv, by rw [ht]; exact hP9, va_K.moved hW.alike hK9, hD9⟩, hS.F ht⟩) hS.2.2 dX3_setKey_103
set_option maxHeartbeats 4000000 in
set_option maxRecDepth 100000 in
/-- init: the sums made, the direction noted -/
theorem metX3_init_2 (l : Launch) (dC : Nat → ClassId) (dI : Nat → Nat → Nat) (h0 qS qA qB k0 a : Nat) (ini fe en : Int32) (hen : en = 0 ∨ en = 1) (cS cA cD cB : ClassId) (S gA gB f : Nat → Int32) (sz : Nat) : Met l yX3_init_2 (ws_ yX3_init_2 cX3_init_2 4 none) ({ frames := 2, cells := 0, slots := 0, locals := 60 }) (va_Pc [.ref h0, .int en, .ref k0] (fun U => U.heap.size = sz ∧ va_P (dC, dI) vwCl [(h0, .inr (3, [.ref qS, .ref qA, .ref qB, .int ini, .int fe])), (qS, .inl (cS, 4, .inl S)), (qA, .inl (cA, 32, .inl gA)), (qB, .inl (cD, 32, .inl gB)), (k0, .inr (4, [.ref a])), (a, .inl (cB, 16, .inl f))] U.heap ∧ va_K (dC, dI) vwCl [(cS, .int), (cA, .int), (cD, .int), (cB, .byte)] U ∧ va_D (fun _ => True) [(h0, .inr (3, [.ref qS, .ref qA, .ref qB, .int ini, .int fe])), (qS, .inl (cS, 4, .inl S)), (qA, .inl (cA, 32, .inl gA)), (qB, .inl (cD, 32, .inl gB)), (k0, .inr (4, [.ref a])), (a, .inl (cB, 16, .inl f))])) (va_Qv (fun u : (Nat → Int32) × (Nat → Int32) × (Nat → Int32) => ∀ j, j < 32 → u.2.1 j = tq_kE (fun j => tq_w f (4 * j)) (tq_s j) ∧ u.2.2 j = tq_kO (fun j => tq_w f (4 * j)) (tq_s (j + 1))) (fun u t => va_P (dC, dI) vwCl [(h0, .inr (3, [.ref qS, .ref qA, .ref qB, .int 1, .int en])), (qS, .inl (cS, 4, .inl u.1)), (qA, .inl (cA, 32, .inl u.2.1)), (qB, .inl (cD, 32, .inl u.2.2)), (k0, .inr (4, [.ref a])), (a, .inl (cB, 16, .inl f))] t.heap ∧ va_K (dC, dI) vwCl [(cS, .int), (cA, .int), (cD, .int), (cB, .byte)] t ∧ va_D (va_A [(h0, .inr (3, [.ref qS, .ref qA, .ref qB, .int ini, .int fe])), (qS, .inl (cS, 4, .inl S)), (qA, .inl (cA, 32, .inl gA)), (qB, .inl (cD, 32, .inl gB)), (k0, .inr (4, [.ref a])), (a, .inl (cB, 16, .inl f))] sz) [(h0, .inr (3, [.ref qS, .ref qA, .ref qB, .int 1, .int en])), (qS, .inl (cS, 4, .inl u.1)), (qA, .inl (cA, 32, .inl u.2.1)), (qB, .inl (cD, 32, .inl u.2.2)), (k0, .inr (4, [.ref a])), (a, .inl (cB, 16, .inl f))]) (va_A [(h0, .inr (3, [.ref qS, .ref qA, .ref qB, .int ini, .int fe])), (qS, .inl (cS, 4, .inl S)), (qA, .inl (cA, 32, .inl gA)), (qB, .inl (cD, 32, .inl gB)), (k0, .inr (4, [.ref a])), (a, .inl (cB, 16, .inl f))] sz)) 0 0 (va_A [(h0, .inr (3, [.ref qS, .ref qA, .ref qB, .int ini, .int fe])), (qS, .inl (cS, 4, .inl S)), (qA, .inl (cA, 32, .inl gA)), (qB, .inl (cD, 32, .inl gB)), (k0, .inr (4, [.ref a])), (a, .inl (cB, 16, .inl f))] sz) := by
  refine Met.ofW (cc := cX3_init_2) (maxL := 4) (ret := none) (by decide) rfl ?_
  intro p e s m args below meth c s₁ B hml hv
  obtain ⟨rfl, hsz, hP, hK, hD0⟩ := hv
  have hx := B.exec
  have hb := B.bytes
  have hr := B.returns
  have hts := atoms_spec (ws := ws_ yX3_init_2 cX3_init_2 4 none) B.pre
  have hts : ∀ w ∈ lw_all, w.before _ s = true := fun w h => hts w (List.mem_cons_of_mem _ h)
  have hown : s.vm.findClass RX3 = some m.cls := findClass_of_methodNamed B.named
  have hlocks := B.notSynchronized
  subst hsz
  have hD := hD0.self (sz := s.heap.size)
  generalize hAe : va_A [(h0, .inr (3, [.ref qS, .ref qA, .ref qB, .int ini, .int fe])), (qS, .inl (cS, 4, .inl S)), (qA, .inl (cA, 32, .inl gA)), (qB, .inl (cD, 32, .inl gB)), (k0, .inr (4, [.ref a])), (a, .inl (cB, 16, .inl f))] s.heap.size = A at hD ⊢
  have hA : ∀ q : Nat, s.heap.size ≤ q → A q := fun q h => by rw [← hAe]; exact Or.inr h
  have hS : va_S A s.heap s.heap [] := va_S.rf
  have hl := lv_entry ([.ref h0, .int en, .ref k0]) (n := 4) (Nat.le_of_ble_eq_true rfl)
  rw [lg_entry_eq]
  generalize (lg_sl ([.ref h0, .int en, .ref k0]) ++ List.replicate (4 - (lg_sl ([.ref h0, .int en, .ref k0])).length) Slot.unset).toArray = ls at hl ⊢
  have hl : lv_has ls 4 [(0, .ref h0), (1, .int en), (2, .ref k0)] := hl
  have hP : va_P (dC, dI) vwCl [(h0, .inr (3, [.ref qS, .ref qA, .ref qB, .int ini, .int fe])), (qS, .inl (cS, 4, .inl S)), (qA, .inl (cA, 32, .inl gA)), (qB, .inl (cD, 32, .inl gB)), (k0, .inr (4, [.ref a])), (a, .inl (cB, 16, .inl f))] s.heap := hP
  refine lv_aload_n hx hb dX3_init_2_0 rfl (lv_at hl 2 rfl) ?_
  refine va_instS hx hb hown (hts _ q237) (hK.1 4 _ rfl).2 (va_recv hK hP (ci := 4) (q0 := 4) rfl rfl) dX3_init_2_1 ?_
  refine lv_if_ne (tgt := 17) hx hb dX3_init_2_4 (by decide) (fun _ => ?_) (fun h9 => absurd h9 (by decide))
  refine lv_aload_n hx hb dX3_init_2_17 rfl (lv_at hl 0 rfl) ?_
  refine lv_iload_n hx hb dX3_init_2_18 rfl (lv_at hl 1 rfl) ?_
  refine va_put (D := (dC, dI)) (ci := 3) (v := .int en) (ty := .boolean) (C := RX3) (T := TX3) (N := 5) hx hb hts in_X3 tyX3 tyX3_ok nmX3 hown hK hP hD hS 0 rfl rfl 4 (by decide) (hts _ q107) (fun _ h9 => h9) rfl (by decide +kernel) (by rcases hen with rfl | rfl <;> rfl) (by rcases hen with rfl | rfl <;> rfl) (Nat.le_of_ble_eq_true rfl) dX3_init_2_19 (fun H locs hP hD hS => ?_)
  have hP : va_P (dC, dI) vwCl [(h0, .inr (3, [.ref qS, .ref qA, .ref qB, .int ini, .int en])), (qS, .inl (cS, 4, .inl S)), (qA, .inl (cA, 32, .inl gA)), (qB, .inl (cD, 32, .inl gB)), (k0, .inr (4, [.ref a])), (a, .inl (cB, 16, .inl f))] H := hP
  have hD : va_D A [(h0, .inr (3, [.ref qS, .ref qA, .ref qB, .int ini, .int en])), (qS, .inl (cS, 4, .inl S)), (qA, .inl (cA, 32, .inl gA)), (qB, .inl (cD, 32, .inl gB)), (k0, .inr (4, [.ref a])), (a, .inl (cB, 16, .inl f))] := hD
  refine lv_aload_n hx hb dX3_init_2_22 rfl (lv_at hl 0 rfl) ?_
  refine lv_iconst (v := 1) hx hb dX3_init_2_23 (by decide) ?_
  refine va_put (D := (dC, dI)) (ci := 3) (v := .int 1) (ty := .boolean) (C := RX3) (T := TX3) (N := 5) hx hb hts in_X3 tyX3 tyX3_ok nmX3 hown hK hP hD hS 0 rfl rfl 3 (by decide) (hts _ q106) (fun _ h9 => h9) rfl (by decide +kernel) rfl rfl (Nat.le_of_ble_eq_true rfl) dX3_init_2_24 (fun H locs hP hD hS => ?_)
  have hP : va_P (dC, dI) vwCl [(h0, .inr (3, [.ref qS, .ref qA, .ref qB, .int 1, .int en])), (qS, .inl (cS, 4, .inl S)), (qA, .inl (cA, 32, .inl gA)), (qB, .inl (cD, 32, .inl gB)), (k0, .inr (4, [.ref a])), (a, .inl (cB, 16, .inl f))] H := hP
  have hD : va_D A [(h0, .inr (3, [.ref qS, .ref qA, .ref qB, .int 1, .int en])), (qS, .inl (cS, 4, .inl S)), (qA, .inl (cA, 32, .inl gA)), (qB, .inl (cD, 32, .inl gB)), (k0, .inr (4, [.ref a])), (a, .inl (cB, 16, .inl f))] := hD
  refine lv_aload_n hx hb dX3_init_2_27 rfl (lv_at hl 2 rfl) ?_
  refine va_castS hx hb hown (hts _ q237) (hK.1 4 _ rfl).2 (va_recv hK hP (ci := 4) (q0 := 4) rfl rfl) dX3_init_2_28 ?_
  refine lv_astore_n (lv' := [(3, .ref k0), (0, .ref h0), (1, .int en), (2, .ref k0)]) hx hb dX3_init_2_31 rfl hl (by decide) rfl (fun ls hl => ?_)
  refine lv_aload_n hx hb dX3_init_2_32 rfl (lv_at hl 1 rfl) ?_
  refine lv_aload_n hx hb dX3_init_2_33 rfl (lv_at hl 0 rfl) ?_
  have hPc := hP.sub (ws' := [(k0, .inr (4, [.ref a]))]) [4] rfl
  have hKc := hK.sub (tys' := []) [] rfl
  refine va_csr (W.runV (As := []) (rest := [.ref h0]) ⟨hx, hb, hml, hown, hts⟩ (metX4_getKey l dC dI k0 a) (cwV 0 hts (lw_V q241 q219 q220 q21 q221) rfl rfl rfl (by decide +kernel) ⟨Nat.le_of_ble_eq_true rfl, Nat.le_of_ble_eq_true rfl⟩) ⟨fun a U g mk q => by obtain ⟨q0, qP, qK⟩ := q; exact ⟨q0, qP, va_K.moved (u := U) (U := U.calling g mk a) (Vm.Alike.refl U.vm) qK⟩, va_recv hK hP (ci := 4) (q0 := 4) rfl rfl, fun U hU hW => ⟨rfl, by rw [hU]; exact hPc, va_K.moved hW.alike hKc⟩⟩ rfl rfl hl.1 rfl (lv_room (Nat.le_of_ble_eq_true rfl)) dX3_init_2_34 ⟨Nat.le_of_ble_eq_true rfl, Nat.le_of_ble_eq_true rfl⟩) (fun _ _ => ?_)
  have hPc := hP.sub (ws' := [(h0, .inr (3, [.ref qS, .ref qA, .ref qB, .int 1, .int en])), (qS, .inl (cS, 4, .inl S)), (qA, .inl (cA, 32, .inl gA)), (qB, .inl (cD, 32, .inl gB)), (a, .inl (cB, 16, .inl f))]) [0, 1, 2, 3, 5] rfl
  have hDc := hD.sub (ws' := [(h0, .inr (3, [.ref qS, .ref qA, .ref qB, .int 1, .int en])), (qS, .inl (cS, 4, .inl S)), (qA, .inl (cA, 32, .inl gA)), (qB, .inl (cD, 32, .inl gB)), (a, .inl (cB, 16, .inl f))]) [0, 1, 2, 3, 5] (by decide) rfl
  have hKc := hK.sub (tys' := [(cS, .int), (cA, .int), (cD, .int), (cB, .byte)]) [0, 1, 2, 3] rfl
  have hFc := va_free (wc := [(h0, .inr (3, [.ref qS, .ref qA, .ref qB, .int 1, .int en])), (qS, .inl (cS, 4, .inl S)), (qA, .inl (cA, 32, .inl gA)), (qB, .inl (cD, 32, .inl gB)), (a, .inl (cB, 16, .inl f))]) hD hS hA [0, 1, 2, 3, 5] rfl
  refine va_callv (va_runV (As := [.ref a]) (rest := []) ⟨hx, hb, hml, hown, hts⟩ (metX3_setKey l dC dI h0 qS qA qB a 1 en cS cA cD cB S gA gB f H.size) (cwV 1 hts (lw_V q242 q244 qs4 q20 q245) rfl rfl rfl (by decide +kernel) ⟨Nat.le_of_ble_eq_true rfl, Nat.le_of_ble_eq_true rfl⟩) ⟨fun a U g mk q => by obtain ⟨q0, q1, qP, qK, qD⟩ := q; exact ⟨q0, q1, qP, va_K.moved (u := U) (U := U.calling g mk a) (Vm.Alike.refl U.vm) qK, qD⟩, va_recv hK hP (ci := 3) (q0 := 0) rfl rfl, fun U hU hW => ⟨rfl, by rw [hU], by rw [hU]; exact hPc, va_K.moved hW.alike hKc, hDc.weaken (fun _ _ _ _ => trivial)⟩⟩ rfl rfl hl.1 rfl (lv_room (Nat.le_of_ble_eq_true rfl)) dX3_init_2_37 ⟨Nat.le_of_ble_eq_true rfl, Nat.le_of_ble_eq_true rfl⟩) hS (fun q _ h => hFc q h) hFc (fun u t H1 locs ht hvm hw hB hzz hk1 hS => ?_)
  obtain ⟨hP1, hK1, hD1⟩ := hB
  rw [ht] at hP1
  obtain ⟨hP, hD⟩ := va_join (wr := [(k0, .inr (4, [.ref a]))]) (w1 := [(h0, .inr (3, [.ref qS, .ref qA, .ref qB, .int 1, .int en])), (qS, .inl (cS, 4, .inl u.1)), (qA, .inl (cA, 32, .inl u.2.1)), (qB, .inl (cD, 32, .inl u.2.2)), (a, .inl (cB, 16, .inl f))]) hP hD [0, 1, 2, 3, 5] [4] rfl rfl (by decide) (by decide) hk1 hFc hP1 hD1
  generalize H1 = H at hP hS ⊢
  have hP : va_P (dC, dI) vwCl [(k0, .inr (4, [.ref a])), (h0, .inr (3, [.ref qS, .ref qA, .ref qB, .int 1, .int en])), (qS, .inl (cS, 4, .inl u.1)), (qA, .inl (cA, 32, .inl u.2.1)), (qB, .inl (cD, 32, .inl u.2.2)), (a, .inl (cB, 16, .inl f))] H := hP
  have hD : va_D A [(k0, .inr (4, [.ref a])), (h0, .inr (3, [.ref qS, .ref qA, .ref qB, .int 1, .int en])), (qS, .inl (cS, 4, .inl u.1)), (qA, .inl (cA, 32, .inl u.2.1)), (qB, .inl (cD, 32, .inl u.2.2)), (a, .inl (cB, 16, .inl f))] := hD
  have hP9 := hP.sub (ws' := [(h0, .inr (3, [.ref qS, .ref qA, .ref qB, .int 1, .int en])), (qS, .inl (cS, 4, .inl u.1)), (qA, .inl (cA, 32, .inl u.2.1)), (qB, .inl (cD, 32, .inl u.2.2)), (k0, .inr (4, [.ref a])), (a, .inl (cB, 16, .inl f))]) [1, 2, 3, 4, 0, 5] rfl
  have hD9 := hD.sub (ws' := [(h0, .inr (3, [.ref qS, .ref qA, .ref qB, .int 1, .int en])), (qS, .inl (cS, 4, .inl u.1)), (qA, .inl (cA, 32, .inl u.2.1)), (qB, .inl (cD, 32, .inl u.2.2)), (k0, .inr (4, [.ref a])), (a, .inl (cB, 16, .inl f))]) [1, 2, 3, 4, 0, 5] (by decide) rfl
  have hK9 := hK.sub (tys' := [(cS, .int), (cA, .int), (cD, .int), (cB, .byte)]) [0, 1, 2, 3] rfl
  exact W.vret hx hb hr (fun t ht hW => ⟨⟨u, rfl, hw, by rw [ht]; exact hP9, va_K.moved hW.alike hK9, hD9⟩, hS.F ht⟩) hS.2.2 dX3_init_2_40
set_option maxHeartbeats 4000000 in
set_option maxRecDepth 100000 in
/-- the cycles: n are left -/
theorem lpX3_enc {p : Program} {l : Launch} {e : Env} {R : Room} {s : State} {m : MethodId} {args : Array Value} {below : List Frame} {meth : Method} {c : Code} {cells slots : Nat} {Q : State → Prop} {dC : Nat → ClassId} {dI : Nat → Nat → Nat} {H : Heap} {locs : List Loc} {h0 qS qA qB qi qo : Nat} {ini fe : Int32} {cA cD cI cO : ClassId} {K gA gB fi fo : Nat → Int32} {X Y : Int32} (hx : p.tables.exec = Jvm.exec) (hb : c.code = cX3_encryptBlock) (hown : s.vm.findClass RX3 = some m.cls) (hts : ∀ w ∈ lw_all, w.before args s = true) (hK : va_K (dC, dI) vwCl [(cA, .int), (cD, .int), (cI, .byte), (cO, .byte)] s) (hP : va_P (dC, dI) vwCl [(h0, .inr (3, [.ref qS, .ref qA, .ref qB, .int ini, .int fe])), (qA, .inl (cA, 32, .inl gA)), (qB, .inl (cD, 32, .inl gB)), (qi, .inl (cI, 8, .inl fi)), (qo, .inl (cO, 8, .inl fo))] H) (hg : ∀ j, j < 32 → gA j = tq_kE K (tq_s j) ∧ gB j = tq_kO K (tq_s (j + 1))) (kk : ∀ ls : Array Slot, lv_has ls 8 [(0, .ref h0), (3, .ref qo), (4, .int (nI 0)), (5, .int X), (6, .int Y)] → W p l e R s m args below meth c H locs cells slots Q (F0 m 84 ls [])) :
    ∀ (n i : Nat) (x y : Int32), i + n = 32 → tq_xE K n (tq_s i) x y = (X, Y) → ∀ ls : Array Slot, lv_has ls 8 [(0, .ref h0), (3, .ref qo), (4, .int (nI 0)), (5, .int x), (6, .int y), (7, .int (nI i))] → W p l e R s m args below meth c H locs cells slots Q (F0 m 21 ls []) := by
  intro n
  induction n with
  | zero =>
    intro i x y hi hv ls hl
    obtain rfl : i = 32 := by omega
    have hv : (x, y) = (X, Y) := hv
    obtain ⟨rfl, rfl⟩ := Prod.mk.inj hv
    refine lv_iload hx hb dX3_encryptBlock_21 (lv_at hl 5 rfl) ?_
    refine lv_bipush (v := 32) hx hb dX3_encryptBlock_23 (by decide) ?_
    exact lv_icmp_ge (tgt := 84) hx hb dX3_encryptBlock_25 (by decide) (fun _ => kk ls (lv_sub hl [0, 1, 2, 3, 4] rfl)) (fun h9 => absurd (by decide +kernel) h9)
  | succ n ih =>
    intro i x y hi hv ls hl
    refine lv_iload hx hb dX3_encryptBlock_21 (lv_at hl 5 rfl) ?_
    refine lv_bipush (v := 32) hx hb dX3_encryptBlock_23 (by decide) ?_
    refine lv_icmp_ge (tgt := 84) hx hb dX3_encryptBlock_25 (by decide) (fun h9 => absurd h9 (nI_ge (a := i) (b := 32) (by omega) (by omega))) (fun _ => ?_)
    refine lv_iload hx hb dX3_encryptBlock_28 (lv_at hl 3 rfl) ?_
    refine lv_iload hx hb dX3_encryptBlock_30 (lv_at hl 4 rfl) ?_
    refine lv_iconst (v := 4) hx hb dX3_encryptBlock_32 (by decide) ?_
    refine lv_ishl hx hb dX3_encryptBlock_33 ?_
    refine lv_iload hx hb dX3_encryptBlock_34 (lv_at hl 4 rfl) ?_
    refine lv_iconst (v := 5) hx hb dX3_encryptBlock_36 (by decide) ?_
    refine lv_iushr (v := (y.toUInt32 >>> ((5 : Int32).toUInt32 &&& Int32.toUInt32 31)).toInt32) hx hb dX3_encryptBlock_37 rfl ?_
    refine lv_ixor hx hb dX3_encryptBlock_38 ?_
    refine lv_iload hx hb dX3_encryptBlock_39 (lv_at hl 4 rfl) ?_
    refine lv_iadd hx hb dX3_encryptBlock_41 ?_
    refine lv_aload_n hx hb dX3_encryptBlock_42 rfl (lv_at hl 0 rfl) ?_
    refine va_get (D := (dC, dI)) (ci := 3) (v := .ref qA) (C := RX3) (T := TX3) (N := 5) hx hb hts in_X3 hown hK hP 0 rfl rfl 1 (by decide) (hts _ q104) (fun _ h9 => h9) rfl dX3_encryptBlock_43 ?_
    refine lv_iload hx hb dX3_encryptBlock_46 (lv_at hl 5 rfl) ?_
    refine tk_ild hx hb hK hP 1 0 rfl rfl (i) (by omega) (by omega) dX3_encryptBlock_48 ?_
    refine lv_ixor hx hb dX3_encryptBlock_49 ?_
    refine lv_iadd hx hb dX3_encryptBlock_50 ?_
    refine lv_topi (fun x1 ex1 => ?_)
    refine lv_istore (lv' := [(5, .int x1), (0, .ref h0), (3, .ref qo), (4, .int (nI 0)), (6, .int y), (7, .int (nI i))]) hx hb dX3_encryptBlock_51 hl (by decide) rfl (fun ls hl => ?_)
    refine lv_iload hx hb dX3_encryptBlock_53 (lv_at hl 4 rfl) ?_
    refine lv_iload hx hb dX3_encryptBlock_55 (lv_at hl 0 rfl) ?_
    refine lv_iconst (v := 4) hx hb dX3_encryptBlock_57 (by decide) ?_
    refine lv_ishl hx hb dX3_encryptBlock_58 ?_
    refine lv_iload hx hb dX3_encryptBlock_59 (lv_at hl 0 rfl) ?_
    refine lv_iconst (v := 5) hx hb dX3_encryptBlock_61 (by decide) ?_
    refine lv_iushr (v := (x1.toUInt32 >>> ((5 : Int32).toUInt32 &&& Int32.toUInt32 31)).toInt32) hx hb dX3_encryptBlock_62 rfl ?_
    refine lv_ixor hx hb dX3_encryptBlock_63 ?_
    refine lv_iload hx hb dX3_encryptBlock_64 (lv_at hl 0 rfl) ?_
    refine lv_iadd hx hb dX3_encryptBlock_66 ?_
    refine lv_aload_n hx hb dX3_encryptBlock_67 rfl (lv_at hl 1 rfl) ?_
    refine va_get (D := (dC, dI)) (ci := 3) (v := .ref qB) (C := RX3) (T := TX3) (N := 5) hx hb hts in_X3 hown hK hP 0 rfl rfl 2 (by decide) (hts _ q105) (fun _ h9 => h9) rfl dX3_encryptBlock_68 ?_
    refine lv_iload hx hb dX3_encryptBlock_71 (lv_at hl 5 rfl) ?_
    refine tk_ild hx hb hK hP 2 1 rfl rfl (i) (by omega) (by omega) dX3_encryptBlock_73 ?_
    refine lv_ixor hx hb dX3_encryptBlock_74 ?_
    refine lv_iadd hx hb dX3_encryptBlock_75 ?_
    refine lv_topi (fun y1 ey1 => ?_)
    refine lv_istore (lv' := [(6, .int y1), (5, .int x1), (0, .ref h0), (3, .ref qo), (4, .int (nI 0)), (7, .int (nI i))]) hx hb dX3_encryptBlock_76 hl (by decide) rfl (fun ls hl => ?_)
    refine lv_iinc (v := nI (i + 1)) (lv' := [(7, .int (nI (i + 1))), (6, .int y1), (5, .int x1), (0, .ref h0), (3, .ref qo), (4, .int (nI 0))]) hx hb dX3_encryptBlock_78 hl (k := 5) rfl (tk_inc i) (by decide) rfl (fun ls hl => ?_)
    refine lv_goto (tgt := 21) hx hb dX3_encryptBlock_81 (by decide) ?_
    exact ih (i + 1) x1 y1 (by omega) (by rw [← hv, ey1, ex1, (hg i (by omega)).1, (hg i (by omega)).2]; rfl) ls (lv_sub hl [3, 4, 5, 2, 1, 0] rfl)
set_option maxHeartbeats 4000000 in
set_option maxRecDepth 100000 in
/-- the cycles: n are left -/
theorem lpX3_dec {p : Program} {l : Launch} {e : Env} {R : Room} {s : State} {m : MethodId} {args : Array Value} {below : List Frame} {meth : Method} {c : Code} {cells slots : Nat} {Q : State → Prop} {dC : Nat → ClassId} {dI : Nat → Nat → Nat} {H : Heap} {locs : List Loc} {h0 qS qA qB qi qo : Nat} {ini fe : Int32} {cA cD cI cO : ClassId} {K gA gB fi fo : Nat → Int32} {X Y : Int32} (hx : p.tables.exec = Jvm.exec) (hb : c.code = cX3_decryptBlock) (hown : s.vm.findClass RX3 = some m.cls) (hts : ∀ w ∈ lw_all, w.before args s = true) (hK : va_K (dC, dI) vwCl [(cA, .int), (cD, .int), (cI, .byte), (cO, .byte)] s) (hP : va_P (dC, dI) vwCl [(h0, .inr (3, [.ref qS, .ref qA, .ref qB, .int ini, .int fe])), (qA, .inl (cA, 32, .inl gA)), (qB, .inl (cD, 32, .inl gB)), (qi, .inl (cI, 8, .inl fi)), (qo, .inl (cO, 8, .inl fo))] H) (hg : ∀ j, j < 32 → gA j = tq_kE K (tq_s j) ∧ gB j = tq_kO K (tq_s (j + 1))) (kk : ∀ ls : Array Slot, lv_has ls 8 [(0, .ref h0), (3, .ref qo), (4, .int (nI 0)), (5, .int X), (6, .int Y)] → W p l e R s m args below meth c H locs cells slots Q (F0 m 83 ls [])) :
    ∀ (n : Nat) (x y : Int32), n ≤ 32 → tq_xD K n (tq_s n) x y = (X, Y) → ∀ ls : Array Slot, lv_has ls 8 [(0, .ref h0), (3, .ref qo), (4, .int (nI 0)), (5, .int x), (6, .int y), (7, .int (nI n - 1))] → W p l e R s m args below meth c H locs cells slots Q (F0 m 22 ls []) := by
  intro n
  induction n with
  | zero =>
    intro x y hi hv ls hl
    have hv : (x, y) = (X, Y) := hv
    obtain ⟨rfl, rfl⟩ := Prod.mk.inj hv
    refine lv_iload hx hb dX3_decryptBlock_22 (lv_at hl 5 rfl) ?_
    exact lv_if_lt (tgt := 83) hx hb dX3_decryptBlock_24 (by decide) (fun _ => kk ls (lv_sub hl [0, 1, 2, 3, 4] rfl)) (fun h9 => absurd (by decide +kernel) h9)
  | succ n ih =>
    intro x y hi hv ls hl
    rw [nI_pred] at hl
    refine lv_iload hx hb dX3_decryptBlock_22 (lv_at hl 5 rfl) ?_
    refine lv_if_lt (tgt := 83) hx hb dX3_decryptBlock_24 (by decide) (fun h9 => absurd h9 (nI_pos (by omega))) (fun _ => ?_)
    refine lv_iload hx hb dX3_decryptBlock_27 (lv_at hl 4 rfl) ?_
    refine lv_iload hx hb dX3_decryptBlock_29 (lv_at hl 3 rfl) ?_
    refine lv_iconst (v := 4) hx hb dX3_decryptBlock_31 (by decide) ?_
    refine lv_ishl hx hb dX3_decryptBlock_32 ?_
    refine lv_iload hx hb dX3_decryptBlock_33 (lv_at hl 3 rfl) ?_
    refine lv_iconst (v := 5) hx hb dX3_decryptBlock_35 (by decide) ?_
    refine lv_iushr (v := (x.toUInt32 >>> ((5 : Int32).toUInt32 &&& Int32.toUInt32 31)).toInt32) hx hb dX3_decryptBlock_36 rfl ?_
    refine lv_ixor hx hb dX3_decryptBlock_37 ?_
    refine lv_iload hx hb dX3_decryptBlock_38 (lv_at hl 3 rfl) ?_
    refine lv_iadd hx hb dX3_decryptBlock_40 ?_
    refine lv_aload_n hx hb dX3_decryptBlock_41 rfl (lv_at hl 0 rfl) ?_
    refine va_get (D := (dC, dI)) (ci := 3) (v := .ref qB) (C := RX3) (T := TX3) (N := 5) hx hb hts in_X3 hown hK hP 0 rfl rfl 2 (by decide) (hts _ q105) (fun _ h9 => h9) rfl dX3_decryptBlock_42 ?_
    refine lv_iload hx hb dX3_decryptBlock_45 (lv_at hl 5 rfl) ?_
    refine tk_ild hx hb hK hP 2 1 rfl rfl (n) (by omega) (by omega) dX3_decryptBlock_47 ?_
    refine lv_ixor hx hb dX3_decryptBlock_48 ?_
    refine lv_isub hx hb dX3_decryptBlock_49 ?_
    refine lv_topi (fun y1 ey1 => ?_)
    refine lv_istore (lv' := [(6, .int y1), (0, .ref h0), (3, .ref qo), (4, .int (nI 0)), (5, .int x), (7, .int (nI n))]) hx hb dX3_decryptBlock_50 hl (by decide) rfl (fun ls hl => ?_)
    refine lv_iload hx hb dX3_decryptBlock_52 (lv_at hl 4 rfl) ?_
    refine lv_iload hx hb dX3_decryptBlock_54 (lv_at hl 0 rfl) ?_
    refine lv_iconst (v := 4) hx hb dX3_decryptBlock_56 (by decide) ?_
    refine lv_ishl hx hb dX3_decryptBlock_57 ?_
    refine lv_iload hx hb dX3_decryptBlock_58 (lv_at hl 0 rfl) ?_
    refine lv_iconst (v := 5) hx hb dX3_decryptBlock_60 (by decide) ?_
    refine lv_iushr (v := (y1.toUInt32 >>> ((5 : Int32).toUInt32 &&& Int32.toUInt32 31)).toInt32) hx hb dX3_decryptBlock_61 rfl ?_
    refine lv_ixor hx hb dX3_decryptBlock_62 ?_
    refine lv_iload hx hb dX3_decryptBlock_63 (lv_at hl 0 rfl) ?_
    refine lv_iadd hx hb dX3_decryptBlock_65 ?_
    refine lv_aload_n hx hb dX3_decryptBlock_66 rfl (lv_at hl 1 rfl) ?_
    refine va_get (D := (dC, dI)) (ci := 3) (v := .ref qA) (C := RX3) (T := TX3) (N := 5) hx hb hts in_X3 hown hK hP 0 rfl rfl 1 (by decide) (hts _ q104) (fun _ h9 => h9) rfl dX3_decryptBlock_67 ?_
    refine lv_iload hx hb dX3_decryptBlock_70 (lv_at hl 5 rfl) ?_
    refine tk_ild hx hb hK hP 1 0 rfl rfl (n) (by omega) (by omega) dX3_decryptBlock_72 ?_
    refine lv_ixor hx hb dX3_decryptBlock_73 ?_
    refine lv_isub hx hb dX3_decryptBlock_74 ?_
    refine lv_topi (fun x1 ex1 => ?_)
    refine lv_istore (lv' := [(5, .int x1), (6, .int y1), (0, .ref h0), (3, .ref qo), (4, .int (nI 0)), (7, .int (nI n))]) hx hb dX3_decryptBlock_75 hl (by decide) rfl (fun ls hl => ?_)
    refine lv_iinc (v := (nI n - 1)) (lv' := [(7, .int (nI n - 1)), (5, .int x1), (6, .int y1), (0, .ref h0), (3, .ref qo), (4, .int (nI 0))]) hx hb dX3_decryptBlock_77 hl (k := 5) rfl (tk_dec n) (by decide) rfl (fun ls hl => ?_)
    refine lv_goto (tgt := 22) hx hb dX3_decryptBlock_80 (by decide) ?_
    refine ih x1 y1 (by omega) ?_ ls (lv_sub hl [3, 4, 5, 1, 2, 0] rfl)
    rw [← hv, ex1, ey1, (hg n (by omega)).1, (hg n (by omega)).2]
    show _ = tq_xD K n (tq_s (n + 1) - (-1640531527)) (x - tq_x (y - tq_x x (tq_kO K (tq_s (n + 1)))) (tq_kE K (tq_s (n + 1) - (-1640531527)))) (y - tq_x x (tq_kO K (tq_s (n + 1))))
    rw [tq_sp]
    rfl
set_option maxHeartbeats 4000000 in
set_option maxRecDepth 100000 in
/-- encryptBlock: both words -/
theorem metX3_encryptBlock (l : Launch) (dC : Nat → ClassId) (dI : Nat → Nat → Nat) (h0 qS qA qB qi qo : Nat) (ini fe : Int32) (cA cD cI cO : ClassId) (K gA gB fi fo : Nat → Int32) (hg : ∀ j, j < 32 → gA j = tq_kE K (tq_s j) ∧ gB j = tq_kO K (tq_s (j + 1))) (sz : Nat) : Met l yX3_encryptBlock (ws_ yX3_encryptBlock cX3_encryptBlock 8 (some .int)) ({ frames := 1, cells := 0, slots := 0, locals := 30 }) (va_Pc [.ref h0, .ref qi, .int (nI 0), .ref qo, .int (nI 0)] (fun U => U.heap.size = sz ∧ va_P (dC, dI) vwCl [(h0, .inr (3, [.ref qS, .ref qA, .ref qB, .int ini, .int fe])), (qA, .inl (cA, 32, .inl gA)), (qB, .inl (cD, 32, .inl gB)), (qi, .inl (cI, 8, .inl fi)), (qo, .inl (cO, 8, .inl fo))] U.heap ∧ va_K (dC, dI) vwCl [(cA, .int), (cD, .int), (cI, .byte), (cO, .byte)] U ∧ va_D (fun _ => True) [(h0, .inr (3, [.ref qS, .ref qA, .ref qB, .int ini, .int fe])), (qA, .inl (cA, 32, .inl gA)), (qB, .inl (cD, 32, .inl gB)), (qi, .inl (cI, 8, .inl fi)), (qo, .inl (cO, 8, .inl fo))])) (va_Qi (fun (_ : Int32) (u : Nat → Int32) => (tq_w u 0, tq_w u 4) = tq_xE K 32 0 (tq_w fi 0) (tq_w fi 4)) (fun u t => va_P (dC, dI) vwCl [(h0, .inr (3, [.ref qS, .ref qA, .ref qB, .int ini, .int fe])), (qA, .inl (cA, 32, .inl gA)), (qB, .inl (cD, 32, .inl gB)), (qi, .inl (cI, 8, .inl fi)), (qo, .inl (cO, 8, .inl u))] t.heap ∧ va_K (dC, dI) vwCl [(cA, .int), (cD, .int), (cI, .byte), (cO, .byte)] t ∧ va_D (va_A [(h0, .inr (3, [.ref qS, .ref qA, .ref qB, .int ini, .int fe])), (qA, .inl (cA, 32, .inl gA)), (qB, .inl (cD, 32, .inl gB)), (qi, .inl (cI, 8, .inl fi)), (qo, .inl (cO, 8, .inl fo))] sz) [(h0, .inr (3, [.ref qS, .ref qA, .ref qB, .int ini, .int fe])), (qA, .inl (cA, 32, .inl gA)), (qB, .inl (cD, 32, .inl gB)), (qi, .inl (cI, 8, .inl fi)), (qo, .inl (cO, 8, .inl u))]) (va_A [(h0, .inr (3, [.ref qS, .ref qA, .ref qB, .int ini, .int fe])), (qA, .inl (cA, 32, .inl gA)), (qB, .inl (cD, 32, .inl gB)), (qi, .inl (cI, 8, .inl fi)), (qo, .inl (cO, 8, .inl fo))] sz)) 0 0 (va_A [(h0, .inr (3, [.ref qS, .ref qA, .ref qB, .int ini, .int fe])), (qA, .inl (cA, 32, .inl gA)), (qB, .inl (cD, 32, .inl gB)), (qi, .inl (cI, 8, .inl fi)), (qo, .inl (cO, 8, .inl fo))] sz) := by
  refine Met.ofW (cc := cX3_encryptBlock) (maxL := 8) (ret := (some .int)) (by decide) rfl ?_
  intro p e s m args below meth c s₁ B hml hv
  obtain ⟨rfl, hsz, hP, hK, hD0⟩ := hv
  have hx := B.exec
  have hb := B.bytes
  have hr := B.returns
  have hts := atoms_spec (ws := ws_ yX3_encryptBlock cX3_encryptBlock 8 (some .int)) B.pre
  have hts : ∀ w ∈ lw_all, w.before _ s = true := fun w h => hts w (List.mem_cons_of_mem _ h)
  have hown : s.vm.findClass RX3 = some m.cls := findClass_of_methodNamed B.named
  have hlocks := B.notSynchronized
  subst hsz
  have hD := hD0.self (sz := s.heap.size)
  generalize hAe : va_A [(h0, .inr (3, [.ref qS, .ref qA, .ref qB, .int ini, .int fe])), (qA, .inl (cA, 32, .inl gA)), (qB, .inl (cD, 32, .inl gB)), (qi, .inl (cI, 8, .inl fi)), (qo, .inl (cO, 8, .inl fo))] s.heap.size = A at hD ⊢
  have hA : ∀ q : Nat, s.heap.size ≤ q → A q := fun q h => by rw [← hAe]; exact Or.inr h
  have hS : va_S A s.heap s.heap [] := va_S.rf
  have hl := lv_entry ([.ref h0, .ref qi, .int (nI 0), .ref qo, .int (nI 0)]) (n := 8) (Nat.le_of_ble_eq_true rfl)
  rw [lg_entry_eq]
  generalize (lg_sl ([.ref h0, .ref qi, .int (nI 0), .ref qo, .int (nI 0)]) ++ List.replicate (8 - (lg_sl ([.ref h0, .ref qi, .int (nI 0), .ref qo, .int (nI 0)])).length) Slot.unset).toArray = ls at hl ⊢
  have hl : lv_has ls 8 [(0, .ref h0), (1, .ref qi), (2, .int (nI 0)), (3, .ref qo), (4, .int (nI 0))] := hl
  have hP : va_P (dC, dI) vwCl [(h0, .inr (3, [.ref qS, .ref qA, .ref qB, .int ini, .int fe])), (qA, .inl (cA, 32, .inl gA)), (qB, .inl (cD, 32, .inl gB)), (qi, .inl (cI, 8, .inl fi)), (qo, .inl (cO, 8, .inl fo))] s.heap := hP
  refine lv_aload_n hx hb dX3_encryptBlock_0 rfl (lv_at hl 0 rfl) ?_
  refine lv_aload_n hx hb dX3_encryptBlock_1 rfl (lv_at hl 1 rfl) ?_
  refine lv_iload_n hx hb dX3_encryptBlock_2 rfl (lv_at hl 2 rfl) ?_
  have hPc := hP.sub (ws' := [(qi, .inl (cI, 8, .inl fi))]) [3] rfl
  have hKc := hK.sub (tys' := [(cI, .byte)]) [2] rfl
  refine vp_callSi (W.runV (As := [.ref qi, .int (nI 0)]) (rest := []) ⟨hx, hb, hml, hown, hts⟩ (metX3_bytesToInt l dC dI h0 qi cI 8 fi 0 (by omega) (by omega)) (cwV 2 hts (lw_V q247 q249 qs5 q20 q250) rfl rfl rfl (by decide +kernel) ⟨Nat.le_of_ble_eq_true rfl, Nat.le_of_ble_eq_true rfl⟩) ⟨fun a U g mk q => by obtain ⟨q0, qP, qK⟩ := q; exact ⟨q0, qP, va_K.moved (u := U) (U := U.calling g mk a) (Vm.Alike.refl U.vm) qK⟩, va_recv hK hP (ci := 3) (q0 := 0) rfl rfl, fun U hU hW => ⟨rfl, by rw [hU]; exact hPc, va_K.moved hW.alike hKc⟩⟩ rfl rfl hl.1 rfl (lv_room (Nat.le_of_ble_eq_true rfl)) dX3_encryptBlock_3 ⟨Nat.le_of_ble_eq_true rfl, Nat.le_of_ble_eq_true rfl⟩) (fun z1 hz1 => ?_)
  refine lv_istore (lv' := [(5, .int z1), (0, .ref h0), (1, .ref qi), (2, .int (nI 0)), (3, .ref qo), (4, .int (nI 0))]) hx hb dX3_encryptBlock_6 hl (by decide) rfl (fun ls hl => ?_)
  refine lv_aload_n hx hb dX3_encryptBlock_8 rfl (lv_at hl 1 rfl) ?_
  refine lv_aload_n hx hb dX3_encryptBlock_9 rfl (lv_at hl 2 rfl) ?_
  refine lv_iload_n hx hb dX3_encryptBlock_10 rfl (lv_at hl 3 rfl) ?_
  refine lv_iconst (v := 4) hx hb dX3_encryptBlock_11 (by decide) ?_
  refine lv_iadd hx hb dX3_encryptBlock_12 ?_
  refine tk_as (nI 4) (nI_add 0 4) ?_
  have hPc := hP.sub (ws' := [(qi, .inl (cI, 8, .inl fi))]) [3] rfl
  have hKc := hK.sub (tys' := [(cI, .byte)]) [2] rfl
  refine vp_callSi (W.runV (As := [.ref qi, .int (nI 4)]) (rest := []) ⟨hx, hb, hml, hown, hts⟩ (metX3_bytesToInt l dC dI h0 qi cI 8 fi 4 (by omega) (by omega)) (cwV 2 hts (lw_V q247 q249 qs5 q20 q250) rfl rfl rfl (by decide +kernel) ⟨Nat.le_of_ble_eq_true rfl, Nat.le_of_ble_eq_true rfl⟩) ⟨fun a U g mk q => by obtain ⟨q0, qP, qK⟩ := q; exact ⟨q0, qP, va_K.moved (u := U) (U := U.calling g mk a) (Vm.Alike.refl U.vm) qK⟩, va_recv hK hP (ci := 3) (q0 := 0) rfl rfl, fun U hU hW => ⟨rfl, by rw [hU]; exact hPc, va_K.moved hW.alike hKc⟩⟩ rfl rfl hl.1 rfl (lv_room (Nat.le_of_ble_eq_true rfl)) dX3_encryptBlock_13 ⟨Nat.le_of_ble_eq_true rfl, Nat.le_of_ble_eq_true rfl⟩) (fun z2 hz2 => ?_)
  refine lv_istore (lv' := [(6, .int z2), (5, .int z1), (0, .ref h0), (1, .ref qi), (2, .int (nI 0)), (3, .ref qo), (4, .int (nI 0))]) hx hb dX3_encryptBlock_16 hl (by decide) rfl (fun ls hl => ?_)
  refine lv_iconst (v := 0) hx hb dX3_encryptBlock_18 (by decide) ?_
  refine tk_as (nI 0) (nI_0.symm) ?_
  refine lv_istore (lv' := [(7, .int (nI 0)), (6, .int z2), (5, .int z1), (0, .ref h0), (1, .ref qi), (2, .int (nI 0)), (3, .ref qo), (4, .int (nI 0))]) hx hb dX3_encryptBlock_19 hl (by decide) rfl (fun ls hl => ?_)
  obtain ⟨X, Y, hXY⟩ : ∃ X Y : Int32, tq_xE K 32 0 z1 z2 = (X, Y) := ⟨_, _, rfl⟩
  refine lpX3_enc (X := X) (Y := Y) hx hb hown hts hK hP hg (fun ls hl => ?_) 32 0 z1 z2 rfl hXY ls (lv_sub hl [3, 6, 7, 2, 1, 0] rfl)
  refine lv_aload_n hx hb dX3_encryptBlock_84 rfl (lv_at hl 0 rfl) ?_
  refine lv_iload hx hb dX3_encryptBlock_85 (lv_at hl 3 rfl) ?_
  refine lv_aload_n hx hb dX3_encryptBlock_87 rfl (lv_at hl 1 rfl) ?_
  refine lv_iload hx hb dX3_encryptBlock_88 (lv_at hl 2 rfl) ?_
  have hPc := hP.sub (ws' := [(qo, .inl (cO, 8, .inl fo))]) [4] rfl
  have hDc := hD.sub (ws' := [(qo, .inl (cO, 8, .inl fo))]) [4] (by decide) rfl
  have hKc := hK.sub (tys' := [(cO, .byte)]) [3] rfl
  have hFc := va_free (wc := [(qo, .inl (cO, 8, .inl fo))]) hD hS hA [4] rfl
  refine va_callv (va_runV (As := [.int X, .ref qo, .int (nI 0)]) (rest := []) ⟨hx, hb, hml, hown, hts⟩ (metX3_unpackInt l dC dI h0 qo cO 8 fo X 0 (by omega) (by omega) s.heap.size) (cwV 3 hts (lw_V q344 q346 qs10 q20 q347) rfl rfl rfl (by decide +kernel) ⟨Nat.le_of_ble_eq_true rfl, Nat.le_of_ble_eq_true rfl⟩) ⟨fun a U g mk q => by obtain ⟨q0, q1, qP, qK, qD⟩ := q; exact ⟨q0, q1, qP, va_K.moved (u := U) (U := U.calling g mk a) (Vm.Alike.refl U.vm) qK, qD⟩, va_recv hK hP (ci := 3) (q0 := 0) rfl rfl, fun U hU hW => ⟨rfl, by rw [hU], by rw [hU]; exact hPc, va_K.moved hW.alike hKc, hDc.weaken (fun _ _ _ _ => trivial)⟩⟩ rfl rfl hl.1 rfl (lv_room (Nat.le_of_ble_eq_true rfl)) dX3_encryptBlock_90 ⟨Nat.le_of_ble_eq_true rfl, Nat.le_of_ble_eq_true rfl⟩) hS (fun q _ h => hFc q h) hFc (fun u1 t H1 locs ht hvm hw1 hB hzz hk1 hS => ?_)
  obtain ⟨hP1, hK1, hD1⟩ := hB
  rw [ht] at hP1
  obtain ⟨hP, hD⟩ := va_join (wr := [(h0, .inr (3, [.ref qS, .ref qA, .ref qB, .int ini, .int fe])), (qA, .inl (cA, 32, .inl gA)), (qB, .inl (cD, 32, .inl gB)), (qi, .inl (cI, 8, .inl fi))]) (w1 := [(qo, .inl (cO, 8, .inl u1))]) hP hD [4] [0, 1, 2, 3] rfl rfl (by decide) (by decide) hk1 hFc hP1 hD1
  generalize H1 = H at hP hS ⊢
  have hP : va_P (dC, dI) vwCl [(h0, .inr (3, [.ref qS, .ref qA, .ref qB, .int ini, .int fe])), (qA, .inl (cA, 32, .inl gA)), (qB, .inl (cD, 32, .inl gB)), (qi, .inl (cI, 8, .inl fi)), (qo, .inl (cO, 8, .inl u1))] H := hP
  have hD : va_D A [(h0, .inr (3, [.ref qS, .ref qA, .ref qB, .int ini, .int fe])), (qA, .inl (cA, 32, .inl gA)), (qB, .inl (cD, 32, .inl gB)), (qi, .inl (cI, 8, .inl fi)), (qo, .inl (cO, 8, .inl u1))] := hD
  refine lv_aload_n hx hb dX3_encryptBlock_93 rfl (lv_at hl 0 rfl) ?_
  refine lv_iload hx hb dX3_encryptBlock_94 (lv_at hl 4 rfl) ?_
  refine lv_aload_n hx hb dX3_encryptBlock_96 rfl (lv_at hl 1 rfl) ?_
  refine lv_iload hx hb dX3_encryptBlock_97 (lv_at hl 2 rfl) ?_
  refine lv_iconst (v := 4) hx hb dX3_encryptBlock_99 (by decide) ?_
  refine lv_iadd hx hb dX3_encryptBlock_100 ?_
  refine tk_as (nI 4) (nI_add 0 4) ?_
  have hPc := hP.sub (ws' := [(qo, .inl (cO, 8, .inl u1))]) [4] rfl
  have hDc := hD.sub (ws' := [(qo, .inl (cO, 8, .inl u1))]) [4] (by decide) rfl
  have hKc := hK.sub (tys' := [(cO, .byte)]) [3] rfl
  have hFc := va_free (wc := [(qo, .inl (cO, 8, .inl u1))]) hD hS hA [4] rfl
  refine va_callv (va_runV (As := [.int Y, .ref qo, .int (nI 4)]) (rest := []) ⟨hx, hb, hml, hown, hts⟩ (metX3_unpackInt l dC dI h0 qo cO 8 u1 Y 4 (by omega) (by omega) H.size) (cwV 3 hts (lw_V q344 q346 qs10 q20 q347) rfl rfl rfl (by decide +kernel) ⟨Nat.le_of_ble_eq_true rfl, Nat.le_of_ble_eq_true rfl⟩) ⟨fun a U g mk q => by obtain ⟨q0, q1, qP, qK, qD⟩ := q; exact ⟨q0, q1, qP, va_K.moved (u := U) (U := U.calling g mk a) (Vm.Alike.refl U.vm) qK, qD⟩, va_recv hK hP (ci := 3) (q0 := 0) rfl rfl, fun U hU hW => ⟨rfl, by rw [hU], by rw [hU]; exact hPc, va_K.moved hW.alike hKc, hDc.weaken (fun _ _ _ _ => trivial)⟩⟩ rfl rfl hl.1 rfl (lv_room (Nat.le_of_ble_eq_true rfl)) dX3_encryptBlock_101 ⟨Nat.le_of_ble_eq_true rfl, Nat.le_of_ble_eq_true rfl⟩) hS (fun q _ h => hFc q h) hFc (fun u2 t H1 locs ht hvm hw2 hB hzz hk1 hS => ?_)
  obtain ⟨hP1, hK1, hD1⟩ := hB
  rw [ht] at hP1
  obtain ⟨hP, hD⟩ := va_join (wr := [(h0, .inr (3, [.ref qS, .ref qA, .ref qB, .int ini, .int fe])), (qA, .inl (cA, 32, .inl gA)), (qB, .inl (cD, 32, .inl gB)), (qi, .inl (cI, 8, .inl fi))]) (w1 := [(qo, .inl (cO, 8, .inl u2))]) hP hD [4] [0, 1, 2, 3] rfl rfl (by decide) (by decide) hk1 hFc hP1 hD1
  generalize H1 = H at hP hS ⊢
  have hP : va_P (dC, dI) vwCl [(h0, .inr (3, [.ref qS, .ref qA, .ref qB, .int ini, .int fe])), (qA, .inl (cA, 32, .inl gA)), (qB, .inl (cD, 32, .inl gB)), (qi, .inl (cI, 8, .inl fi)), (qo, .inl (cO, 8, .inl u2))] H := hP
  have hD : va_D A [(h0, .inr (3, [.ref qS, .ref qA, .ref qB, .int ini, .int fe])), (qA, .inl (cA, 32, .inl gA)), (qB, .inl (cD, 32, .inl gB)), (qi, .inl (cI, 8, .inl fi)), (qo, .inl (cO, 8, .inl u2))] := hD
  refine lv_bipush (v := 8) hx hb dX3_encryptBlock_104 (by decide) ?_
  have hfin : (tq_w u2 0, tq_w u2 4) = tq_xE K 32 0 (tq_w fi 0) (tq_w fi 4) := by rw [hw2.1, tq_eq (f := u2) (g := u1) (i := 0) (fun j _ hj => hw2.2 j (Or.inl (by omega))), hw1.1, ← hXY, hz1, hz2]
  have hP9 := hP.sub (ws' := [(h0, .inr (3, [.ref qS, .ref qA, .ref qB, .int ini, .int fe])), (qA, .inl (cA, 32, .inl gA)), (qB, .inl (cD, 32, .inl gB)), (qi, .inl (cI, 8, .inl fi)), (qo, .inl (cO, 8, .inl u2))]) [0, 1, 2, 3, 4] rfl
  have hD9 := hD.sub (ws' := [(h0, .inr (3, [.ref qS, .ref qA, .ref qB, .int ini, .int fe])), (qA, .inl (cA, 32, .inl gA)), (qB, .inl (cD, 32, .inl gB)), (qi, .inl (cI, 8, .inl fi)), (qo, .inl (cO, 8, .inl u2))]) [0, 1, 2, 3, 4] (by decide) rfl
  have hK9 := hK.sub (tys' := [(cA, .int), (cD, .int), (cI, .byte), (cO, .byte)]) [0, 1, 2, 3] rfl
  exact W.iret hx hb hr (fun t ht hW => ⟨⟨_, u2, rfl, hfin, by rw [ht]; exact hP9, va_K.moved hW.alike hK9, hD9⟩, hS.F ht⟩) hS.2.2 dX3_encryptBlock_106
set_option maxHeartbeats 4000000 in
set_option maxRecDepth 100000 in
/-- decryptBlock: both words -/
theorem metX3_decryptBlock (l : Launch) (dC : Nat → ClassId) (dI : Nat → Nat → Nat) (h0 qS qA qB qi qo : Nat) (ini fe : Int32) (cA cD cI cO : ClassId) (K gA gB fi fo : Nat → Int32) (hg : ∀ j, j < 32 → gA j = tq_kE K (tq_s j) ∧ gB j = tq_kO K (tq_s (j + 1))) (sz : Nat) : Met l yX3_decryptBlock (ws_ yX3_decryptBlock cX3_decryptBlock 8 (some .int)) ({ frames := 1, cells := 0, slots := 0, locals := 30 }) (va_Pc [.ref h0, .ref qi, .int (nI 0), .ref qo, .int (nI 0)] (fun U => U.heap.size = sz ∧ va_P (dC, dI) vwCl [(h0, .inr (3, [.ref qS, .ref qA, .ref qB, .int ini, .int fe])), (qA, .inl (cA, 32, .inl gA)), (qB, .inl (cD, 32, .inl gB)), (qi, .inl (cI, 8, .inl fi)), (qo, .inl (cO, 8, .inl fo))] U.heap ∧ va_K (dC, dI) vwCl [(cA, .int), (cD, .int), (cI, .byte), (cO, .byte)] U ∧ va_D (fun _ => True) [(h0, .inr (3, [.ref qS, .ref qA, .ref qB, .int ini, .int fe])), (qA, .inl (cA, 32, .inl gA)), (qB, .inl (cD, 32, .inl gB)), (qi, .inl (cI, 8, .inl fi)), (qo, .inl (cO, 8, .inl fo))])) (va_Qi (fun (_ : Int32) (u : Nat → Int32) => (tq_w u 0, tq_w u 4) = tq_xD K 32 (-957401312) (tq_w fi 0) (tq_w fi 4)) (fun u t => va_P (dC, dI) vwCl [(h0, .inr (3, [.ref qS, .ref qA, .ref qB, .int ini, .int fe])), (qA, .inl (cA, 32, .inl gA)), (qB, .inl (cD, 32, .inl gB)), (qi, .inl (cI, 8, .inl fi)), (qo, .inl (cO, 8, .inl u))] t.heap ∧ va_K (dC, dI) vwCl [(cA, .int), (cD, .int), (cI, .byte), (cO, .byte)] t ∧ va_D (va_A [(h0, .inr (3, [.ref qS, .ref qA, .ref qB, .int ini, .int fe])), (qA, .inl (cA, 32, .inl gA)), (qB, .inl (cD, 32, .inl gB)), (qi, .inl (cI, 8, .inl fi)), (qo, .inl (cO, 8, .inl fo))] sz) [(h0, .inr (3, [.ref qS, .ref qA, .ref qB, .int ini, .int fe])), (qA, .inl (cA, 32, .inl gA)), (qB, .inl (cD, 32, .inl gB)), (qi, .inl (cI, 8, .inl fi)), (qo, .inl (cO, 8, .inl u))]) (va_A [(h0, .inr (3, [.ref qS, .ref qA, .ref qB, .int ini, .int fe])), (qA, .inl (cA, 32, .inl gA)), (qB, .inl (cD, 32, .inl gB)), (qi, .inl (cI, 8, .inl fi)), (qo, .inl (cO, 8, .inl fo))] sz)) 0 0 (va_A [(h0, .inr (3, [.ref qS, .ref qA, .ref qB, .int ini, .int fe])), (qA, .inl (cA, 32, .inl gA)), (qB, .inl (cD, 32, .inl gB)), (qi, .inl (cI, 8, .inl fi)), (qo, .inl (cO, 8, .inl fo))] sz) := by
  refine Met.ofW (cc := cX3_decryptBlock) (maxL := 8) (ret := (some .int)) (by decide) rfl ?_
  intro p e s m args below meth c s₁ B hml hv
  obtain ⟨rfl, hsz, hP, hK, hD0⟩ := hv
  have hx := B.exec
  have hb := B.bytes
  have hr := B.returns
  have hts := atoms_spec (ws := ws_ yX3_decryptBlock cX3_decryptBlock 8 (some .int)) B.pre
  have hts : ∀ w ∈ lw_all, w.before _ s = true := fun w h => hts w (List.mem_cons_of_mem _ h)
  have hown : s.vm.findClass RX3 = some m.cls := findClass_of_methodNamed B.named
  have hlocks := B.notSynchronized
  subst hsz
  have hD := hD0.self (sz := s.heap.size)
  generalize hAe : va_A [(h0, .inr (3, [.ref qS, .ref qA, .ref qB, .int ini, .int fe])), (qA, .inl (cA, 32, .inl gA)), (qB, .inl (cD, 32, .inl gB)), (qi, .inl (cI, 8, .inl fi)), (qo, .inl (cO, 8, .inl fo))] s.heap.size = A at hD ⊢
  have hA : ∀ q : Nat, s.heap.size ≤ q → A q := fun q h => by rw [← hAe]; exact Or.inr h
  have hS : va_S A s.heap s.heap [] := va_S.rf
  have hl := lv_entry ([.ref h0, .ref qi, .int (nI 0), .ref qo, .int (nI 0)]) (n := 8) (Nat.le_of_ble_eq_true rfl)
  rw [lg_entry_eq]
  generalize (lg_sl ([.ref h0, .ref qi, .int (nI 0), .ref qo, .int (nI 0)]) ++ List.replicate (8 - (lg_sl ([.ref h0, .ref qi, .int (nI 0), .ref qo, .int (nI 0)])).length) Slot.unset).toArray = ls at hl ⊢
  have hl : lv_has ls 8 [(0, .ref h0), (1, .ref qi), (2, .int (nI 0)), (3, .ref qo), (4, .int (nI 0))] := hl
  have hP : va_P (dC, dI) vwCl [(h0, .inr (3, [.ref qS, .ref qA, .ref qB, .int ini, .int fe])), (qA, .inl (cA, 32, .inl gA)), (qB, .inl (cD, 32, .inl gB)), (qi, .inl (cI, 8, .inl fi)), (qo, .inl (cO, 8, .inl fo))] s.heap := hP
  refine lv_aload_n hx hb dX3_decryptBlock_0 rfl (lv_at hl 0 rfl) ?_
  refine lv_aload_n hx hb dX3_decryptBlock_1 rfl (lv_at hl 1 rfl) ?_
  refine lv_iload_n hx hb dX3_decryptBlock_2 rfl (lv_at hl 2 rfl) ?_
  have hPc := hP.sub (ws' := [(qi, .inl (cI, 8, .inl fi))]) [3] rfl
  have hKc := hK.sub (tys' := [(cI, .byte)]) [2] rfl
  refine vp_callSi (W.runV (As := [.ref qi, .int (nI 0)]) (rest := []) ⟨hx, hb, hml, hown, hts⟩ (metX3_bytesToInt l dC dI h0 qi cI 8 fi 0 (by omega) (by omega)) (cwV 2 hts (lw_V q247 q249 qs5 q20 q250) rfl rfl rfl (by decide +kernel) ⟨Nat.le_of_ble_eq_true rfl, Nat.le_of_ble_eq_true rfl⟩) ⟨fun a U g mk q => by obtain ⟨q0, qP, qK⟩ := q; exact ⟨q0, qP, va_K.moved (u := U) (U := U.calling g mk a) (Vm.Alike.refl U.vm) qK⟩, va_recv hK hP (ci := 3) (q0 := 0) rfl rfl, fun U hU hW => ⟨rfl, by rw [hU]; exact hPc, va_K.moved hW.alike hKc⟩⟩ rfl rfl hl.1 rfl (lv_room (Nat.le_of_ble_eq_true rfl)) dX3_decryptBlock_3 ⟨Nat.le_of_ble_eq_true rfl, Nat.le_of_ble_eq_true rfl⟩) (fun z1 hz1 => ?_)
  refine lv_istore (lv' := [(5, .int z1), (0, .ref h0), (1, .ref qi), (2, .int (nI 0)), (3, .ref qo), (4, .int (nI 0))]) hx hb dX3_decryptBlock_6 hl (by decide) rfl (fun ls hl => ?_)
  refine lv_aload_n hx hb dX3_decryptBlock_8 rfl (lv_at hl 1 rfl) ?_
  refine lv_aload_n hx hb dX3_decryptBlock_9 rfl (lv_at hl 2 rfl) ?_
  refine lv_iload_n hx hb dX3_decryptBlock_10 rfl (lv_at hl 3 rfl) ?_
  refine lv_iconst (v := 4) hx hb dX3_decryptBlock_11 (by decide) ?_
  refine lv_iadd hx hb dX3_decryptBlock_12 ?_
  refine tk_as (nI 4) (nI_add 0 4) ?_
  have hPc := hP.sub (ws' := [(qi, .inl (cI, 8, .inl fi))]) [3] rfl
  have hKc := hK.sub (tys' := [(cI, .byte)]) [2] rfl
  refine vp_callSi (W.runV (As := [.ref qi, .int (nI 4)]) (rest := []) ⟨hx, hb, hml, hown, hts⟩ (metX3_bytesToInt l dC dI h0 qi cI 8 fi 4 (by omega) (by omega)) (cwV 2 hts (lw_V q247 q249 qs5 q20 q250) rfl rfl rfl (by decide +kernel) ⟨Nat.le_of_ble_eq_true rfl, Nat.le_of_ble_eq_true rfl⟩) ⟨fun a U g mk q => by obtain ⟨q0, qP, qK⟩ := q; exact ⟨q0, qP, va_K.moved (u := U) (U := U.calling g mk a) (Vm.Alike.refl U.vm) qK⟩, va_recv hK hP (ci := 3) (q0 := 0) rfl rfl, fun U hU hW => ⟨rfl, by rw [hU]; exact hPc, va_K.moved hW.alike hKc⟩⟩ rfl rfl hl.1 rfl (lv_room (Nat.le_of_ble_eq_true rfl)) dX3_decryptBlock_13 ⟨Nat.le_of_ble_eq_true rfl, Nat.le_of_ble_eq_true rfl⟩) (fun z2 hz2 => ?_)
  refine lv_istore (lv' := [(6, .int z2), (5, .int z1), (0, .ref h0), (1, .ref qi), (2, .int (nI 0)), (3, .ref qo), (4, .int (nI 0))]) hx hb dX3_decryptBlock_16 hl (by decide) rfl (fun ls hl => ?_)
  refine lv_bipush (v := 31) hx hb dX3_decryptBlock_18 (by decide) ?_
  refine tk_as (nI 32 - 1) (by decide +kernel) ?_
  refine lv_istore (lv' := [(7, .int (nI 32 - 1)), (6, .int z2), (5, .int z1), (0, .ref h0), (1, .ref qi), (2, .int (nI 0)), (3, .ref qo), (4, .int (nI 0))]) hx hb dX3_decryptBlock_20 hl (by decide) rfl (fun ls hl => ?_)
  obtain ⟨X, Y, hXY⟩ : ∃ X Y : Int32, tq_xD K 32 (-957401312) z1 z2 = (X, Y) := ⟨_, _, rfl⟩
  refine lpX3_dec (X := X) (Y := Y) hx hb hown hts hK hP hg (fun ls hl => ?_) 32 z1 z2 (Nat.le_refl 32) (by rw [tq_s32]; exact hXY) ls (lv_sub hl [3, 6, 7, 2, 1, 0] rfl)
  refine lv_aload_n hx hb dX3_decryptBlock_83 rfl (lv_at hl 0 rfl) ?_
  refine lv_iload hx hb dX3_decryptBlock_84 (lv_at hl 3 rfl) ?_
  refine lv_aload_n hx hb dX3_decryptBlock_86 rfl (lv_at hl 1 rfl) ?_
  refine lv_iload hx hb dX3_decryptBlock_87 (lv_at hl 2 rfl) ?_
  have hPc := hP.sub (ws' := [(qo, .inl (cO, 8, .inl fo))]) [4] rfl
  have hDc := hD.sub (ws' := [(qo, .inl (cO, 8, .inl fo))]) [4] (by decide) rfl
  have hKc := hK.sub (tys' := [(cO, .byte)]) [3] rfl
  have hFc := va_free (wc := [(qo, .inl (cO, 8, .inl fo))]) hD hS hA [4] rfl
  refine va_callv (va_runV (As := [.int X, .ref qo, .int (nI 0)]) (rest := []) ⟨hx, hb, hml, hown, hts⟩ (metX3_unpackInt l dC dI h0 qo cO 8 fo X 0 (by omega) (by omega) s.heap.size) (cwV 3 hts (lw_V q344 q346 qs10 q20 q347) rfl rfl rfl (by decide +kernel) ⟨Nat.le_of_ble_eq_true rfl, Nat.le_of_ble_eq_true rfl⟩) ⟨fun a U g mk q => by obtain ⟨q0, q1, qP, qK, qD⟩ := q; exact ⟨q0, q1, qP, va_K.moved (u := U) (U := U.calling g mk a) (Vm.Alike.refl U.vm) qK, qD⟩, va_recv hK hP (ci := 3) (q0 := 0) rfl rfl, fun U hU hW => ⟨rfl, by rw [hU], by rw [hU]; exact hPc, va_K.moved hW.alike hKc, hDc.weaken (fun _ _ _ _ => trivial)⟩⟩ rfl rfl hl.1 rfl (lv_room (Nat.le_of_ble_eq_true rfl)) dX3_decryptBlock_89 ⟨Nat.le_of_ble_eq_true rfl, Nat.le_of_ble_eq_true rfl⟩) hS (fun q _ h => hFc q h) hFc (fun u1 t H1 locs ht hvm hw1 hB hzz hk1 hS => ?_)
  obtain ⟨hP1, hK1, hD1⟩ := hB
  rw [ht] at hP1
  obtain ⟨hP, hD⟩ := va_join (wr := [(h0, .inr (3, [.ref qS, .ref qA, .ref qB, .int ini, .int fe])), (qA, .inl (cA, 32, .inl gA)), (qB, .inl (cD, 32, .inl gB)), (qi, .inl (cI, 8, .inl fi))]) (w1 := [(qo, .inl (cO, 8, .inl u1))]) hP hD [4] [0, 1, 2, 3] rfl rfl (by decide) (by decide) hk1 hFc hP1 hD1
  generalize H1 = H at hP hS ⊢
  have hP : va_P (dC, dI) vwCl [(h0, .inr (3, [.ref qS, .ref qA, .ref qB, .int ini, .int fe])), (qA, .inl (cA, 32, .inl gA)), (qB, .inl (cD, 32, .inl gB)), (qi, .inl (cI, 8, .inl fi)), (qo, .inl (cO, 8, .inl u1))] H := hP
  have hD : va_D A [(h0, .inr (3, [.ref qS, .ref qA, .ref qB, .int ini, .int fe])), (qA, .inl (cA, 32, .inl gA)), (qB, .inl (cD, 32, .inl gB)), (qi, .inl (cI, 8, .inl fi)), (qo, .inl (cO, 8, .inl u1))] := hD
  refine lv_aload_n hx hb dX3_decryptBlock_92 rfl (lv_at hl 0 rfl) ?_
  refine lv_iload hx hb dX3_decryptBlock_93 (lv_at hl 4 rfl) ?_
  refine lv_aload_n hx hb dX3_decryptBlock_95 rfl (lv_at hl 1 rfl) ?_
  refine lv_iload hx hb dX3_decryptBlock_96 (lv_at hl 2 rfl) ?_
  refine lv_iconst (v := 4) hx hb dX3_decryptBlock_98 (by decide) ?_
  refine lv_iadd hx hb dX3_decryptBlock_99 ?_
  refine tk_as (nI 4) (nI_add 0 4) ?_
  have hPc := hP.sub (ws' := [(qo, .inl (cO, 8, .inl u1))]) [4] rfl
  have hDc := hD.sub (ws' := [(qo, .inl (cO, 8, .inl u1))]) [4] (by decide) rfl
  have hKc := hK.sub (tys' := [(cO, .byte)]) [3] rfl
  have hFc := va_free (wc := [(qo, .inl (cO, 8, .inl u1))]) hD hS hA [4] rfl
  refine va_callv (va_runV (As := [.int Y, .ref qo, .int (nI 4)]) (rest := []) ⟨hx, hb, hml, hown, hts⟩ (metX3_unpackInt l dC dI h0 qo cO 8 u1 Y 4 (by omega) (by omega) H.size) (cwV 3 hts (lw_V q344 q346 qs10 q20 q347) rfl rfl rfl (by decide +kernel) ⟨Nat.le_of_ble_eq_true rfl, Nat.le_of_ble_eq_true rfl⟩) ⟨fun a U g mk q => by obtain ⟨q0, q1, qP, qK, qD⟩ := q; exact ⟨q0, q1, qP, va_K.moved (u := U) (U := U.calling g mk a) (Vm.Alike.refl U.vm) qK, qD⟩, va_recv hK hP (ci := 3) (q0 := 0) rfl rfl, fun U hU hW => ⟨rfl, by rw [hU], by rw [hU]; exact hPc, va_K.moved hW.alike hKc, hDc.weaken (fun _ _ _ _ => trivial)⟩⟩ rfl rfl hl.1 rfl (lv_room (Nat.le_of_ble_eq_true rfl)) dX3_decryptBlock_100 ⟨Nat.le_of_ble_eq_true rfl, Nat.le_of_ble_eq_true rfl⟩) hS (fun q _ h => hFc q h) hFc (fun u2 t H1 locs ht hvm hw2 hB hzz hk1 hS => ?_)
  obtain ⟨hP1, hK1, hD1⟩ := hB
  rw [ht] at hP1
  obtain ⟨hP, hD⟩ := va_join (wr := [(h0, .inr (3, [.ref qS, .ref qA, .ref qB, .int ini, .int fe])), (qA, .inl (cA, 32, .inl gA)), (qB, .inl (cD, 32, .inl gB)), (qi, .inl (cI, 8, .inl fi))]) (w1 := [(qo, .inl (cO, 8, .inl u2))]) hP hD [4] [0, 1, 2, 3] rfl rfl (by decide) (by decide) hk1 hFc hP1 hD1
  generalize H1 = H at hP hS ⊢
  have hP : va_P (dC, dI) vwCl [(h0, .inr (3, [.ref qS, .ref qA, .ref qB, .int ini, .int fe])), (qA, .inl (cA, 32, .inl gA)), (qB, .inl (cD, 32, .inl gB)), (qi, .inl (cI, 8, .inl fi)), (qo, .inl (cO, 8, .inl u2))] H := hP
  have hD : va_D A [(h0, .inr (3, [.ref qS, .ref qA, .ref qB, .int ini, .int fe])), (qA, .inl (cA, 32, .inl gA)), (qB, .inl (cD, 32, .inl gB)), (qi, .inl (cI, 8, .inl fi)), (qo, .inl (cO, 8, .inl u2))] := hD
  refine lv_bipush (v := 8) hx hb dX3_decryptBlock_103 (by decide) ?_
  have hfin : (tq_w u2 0, tq_w u2 4) = tq_xD K 32 (-957401312) (tq_w fi 0) (tq_w fi 4) := by rw [hw2.1, tq_eq (f := u2) (g := u1) (i := 0) (fun j _ hj => hw2.2 j (Or.inl (by omega))), hw1.1, ← hXY, hz1, hz2]
  have hP9 := hP.sub (ws' := [(h0, .inr (3, [.ref qS, .ref qA, .ref qB, .int ini, .int fe])), (qA, .inl (cA, 32, .inl gA)), (qB, .inl (cD, 32, .inl gB)), (qi, .inl (cI, 8, .inl fi)), (qo, .inl (cO, 8, .inl u2))]) [0, 1, 2, 3, 4] rfl
  have hD9 := hD.sub (ws' := [(h0, .inr (3, [.ref qS, .ref qA, .ref qB, .int ini, .int fe])), (qA, .inl (cA, 32, .inl gA)), (qB, .inl (cD, 32, .inl gB)), (qi, .inl (cI, 8, .inl fi)), (qo, .inl (cO, 8, .inl u2))]) [0, 1, 2, 3, 4] (by decide) rfl
  have hK9 := hK.sub (tys' := [(cA, .int), (cD, .int), (cI, .byte), (cO, .byte)]) [0, 1, 2, 3] rfl
  exact W.iret hx hb hr (fun t ht hW => ⟨⟨_, u2, rfl, hfin, by rw [ht]; exact hP9, va_K.moved hW.alike hK9, hD9⟩, hS.F ht⟩) hS.2.2 dX3_decryptBlock_105
set_option maxHeartbeats 4000000 in
set_option maxRecDepth 100000 in
/-- processBlock: by the direction -/
theorem metX3_processBlock (l : Launch) (dC : Nat → ClassId) (dI : Nat → Nat → Nat) (h0 qS qA qB qi qo : Nat) (en : Int32) (cA cD cI cO : ClassId) (K gA gB fi fo : Nat → Int32) (hg : ∀ j, j < 32 → gA j = tq_kE K (tq_s j) ∧ gB j = tq_kO K (tq_s (j + 1))) (sz : Nat) : Met l yX3_processBlock (ws_ yX3_processBlock cX3_processBlock 5 (some .int)) ({ frames := 2, cells := 0, slots := 0, locals := 60 }) (va_Pc [.ref h0, .ref qi, .int (nI 0), .ref qo, .int (nI 0)] (fun U => U.heap.size = sz ∧ va_P (dC, dI) vwCl [(h0, .inr (3, [.ref qS, .ref qA, .ref qB, .int 1, .int en])), (qA, .inl (cA, 32, .inl gA)), (qB, .inl (cD, 32, .inl gB)), (qi, .inl (cI, 8, .inl fi)), (qo, .inl (cO, 8, .inl fo))] U.heap ∧ va_K (dC, dI) vwCl [(cA, .int), (cD, .int), (cI, .byte), (cO, .byte)] U ∧ va_D (fun _ => True) [(h0, .inr (3, [.ref qS, .ref qA, .ref qB, .int 1, .int en])), (qA, .inl (cA, 32, .inl gA)), (qB, .inl (cD, 32, .inl gB)), (qi, .inl (cI, 8, .inl fi)), (qo, .inl (cO, 8, .inl fo))])) (va_Qi (fun (_ : Int32) (u : Nat → Int32) => (tq_w u 0, tq_w u 4) = if en = 0 then tq_xD K 32 (-957401312) (tq_w fi 0) (tq_w fi 4) else tq_xE K 32 0 (tq_w fi 0) (tq_w fi 4)) (fun u t => va_P (dC, dI) vwCl [(h0, .inr (3, [.ref qS, .ref qA, .ref qB, .int 1, .int en])), (qA, .inl (cA, 32, .inl gA)), (qB, .inl (cD, 32, .inl gB)), (qi, .inl (cI, 8, .inl fi)), (qo, .inl (cO, 8, .inl u))] t.heap ∧ va_K (dC, dI) vwCl [(cA, .int), (cD, .int), (cI, .byte), (cO, .byte)] t ∧ va_D (va_A [(h0, .inr (3, [.ref qS, .ref qA, .ref qB, .int 1, .int en])), (qA, .inl (cA, 32, .inl gA)), (qB, .inl (cD, 32, .inl gB)), (qi, .inl (cI, 8, .inl fi)), (qo, .inl (cO, 8, .inl fo))] sz) [(h0, .inr (3, [.ref qS, .ref qA, .ref qB, .int 1, .int en])), (qA, .inl (cA, 32, .inl gA)), (qB, .inl (cD, 32, .inl gB)), (qi, .inl (cI, 8, .inl fi)), (qo, .inl (cO, 8, .inl u))]) (va_A [(h0, .inr (3, [.ref qS, .ref qA, .ref qB, .int 1, .int en])), (qA, .inl (cA, 32, .inl gA)), (qB, .inl (cD, 32, .inl gB)), (qi, .inl (cI, 8, .inl fi)), (qo, .inl (cO, 8, .inl fo))] sz)) 0 0 (va_A [(h0, .inr (3, [.ref qS, .ref qA, .ref qB, .int 1, .int en])), (qA, .inl (cA, 32, .inl gA)), (qB, .inl (cD, 32, .inl gB)), (qi, .inl (cI, 8, .inl fi)), (qo, .inl (cO, 8, .inl fo))] sz) := by
  refine Met.ofW (cc := cX3_processBlock) (maxL := 5) (ret := (some .int)) (by decide) rfl ?_
  intro p e s m args below meth c s₁ B hml hv
  obtain ⟨rfl, hsz, hP, hK, hD0⟩ := hv
  have hx := B.exec
  have hb := B.bytes
  have hr := B.returns
  have hts := atoms_spec (ws := ws_ yX3_processBlock cX3_processBlock 5 (some .int)) B.pre
  have hts : ∀ w ∈ lw_all, w.before _ s = true := fun w h => hts w (List.mem_cons_of_mem _ h)
  have hown : s.vm.findClass RX3 = some m.cls := findClass_of_methodNamed B.named
  have hlocks := B.notSynchronized
  subst hsz
  have hD := hD0.self (sz := s.heap.size)
  generalize hAe : va_A [(h0, .inr (3, [.ref qS, .ref qA, .ref qB, .int 1, .int en])), (qA, .inl (cA, 32, .inl gA)), (qB, .inl (cD, 32, .inl gB)), (qi, .inl (cI, 8, .inl fi)), (qo, .inl (cO, 8, .inl fo))] s.heap.size = A at hD ⊢
  have hA : ∀ q : Nat, s.heap.size ≤ q → A q := fun q h => by rw [← hAe]; exact Or.inr h
  have hS : va_S A s.heap s.heap [] := va_S.rf
  have hl := lv_entry ([.ref h0, .ref qi, .int (nI 0), .ref qo, .int (nI 0)]) (n := 5) (Nat.le_of_ble_eq_true rfl)
  rw [lg_entry_eq]
  generalize (lg_sl ([.ref h0, .ref qi, .int (nI 0), .ref qo, .int (nI 0)]) ++ List.replicate (5 - (lg_sl ([.ref h0, .ref qi, .int (nI 0), .ref qo, .int (nI 0)])).length) Slot.unset).toArray = ls at hl ⊢
  have hl : lv_has ls 5 [(0, .ref h0), (1, .ref qi), (2, .int (nI 0)), (3, .ref qo), (4, .int (nI 0))] := hl
  have hP : va_P (dC, dI) vwCl [(h0, .inr (3, [.ref qS, .ref qA, .ref qB, .int 1, .int en])), (qA, .inl (cA, 32, .inl gA)), (qB, .inl (cD, 32, .inl gB)), (qi, .inl (cI, 8, .inl fi)), (qo, .inl (cO, 8, .inl fo))] s.heap := hP
  refine lv_aload_n hx hb dX3_processBlock_0 rfl (lv_at hl 0 rfl) ?_
  refine va_get (D := (dC, dI)) (ci := 3) (v := .int 1) (C := RX3) (T := TX3) (N := 5) hx hb hts in_X3 hown hK hP 0 rfl rfl 3 (by decide) (hts _ q106) (fun _ h9 => h9) rfl dX3_processBlock_1 ?_
  refine lv_if_ne (tgt := 17) hx hb dX3_processBlock_4 (by decide) (fun _ => ?_) (fun h9 => absurd h9 (by decide))
  refine lv_iload_n hx hb dX3_processBlock_17 rfl (lv_at hl 2 rfl) ?_
  refine lv_bipush (v := 8) hx hb dX3_processBlock_18 (by decide) ?_
  refine lv_iadd hx hb dX3_processBlock_20 ?_
  refine lv_aload_n hx hb dX3_processBlock_21 rfl (lv_at hl 1 rfl) ?_
  refine va_alen (v := 8) hx hb hK hP 3 2 rfl rfl rfl dX3_processBlock_22 ?_
  refine lv_icmp_le (tgt := 36) hx hb dX3_processBlock_23 (by decide) (fun _ => ?_) (fun h9 => absurd (by decide +kernel) h9)
  refine lv_iload hx hb dX3_processBlock_36 (lv_at hl 4 rfl) ?_
  refine lv_bipush (v := 8) hx hb dX3_processBlock_38 (by decide) ?_
  refine lv_iadd hx hb dX3_processBlock_40 ?_
  refine lv_aload_n hx hb dX3_processBlock_41 rfl (lv_at hl 3 rfl) ?_
  refine va_alen (v := 8) hx hb hK hP 4 3 rfl rfl rfl dX3_processBlock_42 ?_
  refine lv_icmp_le (tgt := 56) hx hb dX3_processBlock_43 (by decide) (fun _ => ?_) (fun h9 => absurd (by decide +kernel) h9)
  refine lv_aload_n hx hb dX3_processBlock_56 rfl (lv_at hl 0 rfl) ?_
  refine va_get (D := (dC, dI)) (ci := 3) (v := .int en) (C := RX3) (T := TX3) (N := 5) hx hb hts in_X3 hown hK hP 0 rfl rfl 4 (by decide) (hts _ q107) (fun _ h9 => h9) rfl dX3_processBlock_57 ?_
  refine lv_if_eq (tgt := 75) hx hb dX3_processBlock_60 (by decide) (fun h9 => ?_) (fun h9 => ?_)
  · refine lv_aload_n hx hb dX3_processBlock_75 rfl (lv_at hl 0 rfl) ?_
    refine lv_aload_n hx hb dX3_processBlock_76 rfl (lv_at hl 1 rfl) ?_
    refine lv_iload_n hx hb dX3_processBlock_77 rfl (lv_at hl 2 rfl) ?_
    refine lv_aload_n hx hb dX3_processBlock_78 rfl (lv_at hl 3 rfl) ?_
    refine lv_iload hx hb dX3_processBlock_79 (lv_at hl 4 rfl) ?_
    have hPc := hP.sub (ws' := [(h0, .inr (3, [.ref qS, .ref qA, .ref qB, .int 1, .int en])), (qA, .inl (cA, 32, .inl gA)), (qB, .inl (cD, 32, .inl gB)), (qi, .inl (cI, 8, .inl fi)), (qo, .inl (cO, 8, .inl fo))]) [0, 1, 2, 3, 4] rfl
    have hDc := hD.sub (ws' := [(h0, .inr (3, [.ref qS, .ref qA, .ref qB, .int 1, .int en])), (qA, .inl (cA, 32, .inl gA)), (qB, .inl (cD, 32, .inl gB)), (qi, .inl (cI, 8, .inl fi)), (qo, .inl (cO, 8, .inl fo))]) [0, 1, 2, 3, 4] (by decide) rfl
    have hKc := hK.sub (tys' := [(cA, .int), (cD, .int), (cI, .byte), (cO, .byte)]) [0, 1, 2, 3] rfl
    have hFc := va_free (wc := [(h0, .inr (3, [.ref qS, .ref qA, .ref qB, .int 1, .int en])), (qA, .inl (cA, 32, .inl gA)), (qB, .inl (cD, 32, .inl gB)), (qi, .inl (cI, 8, .inl fi)), (qo, .inl (cO, 8, .inl fo))]) hD hS hA [0, 1, 2, 3, 4] rfl
    refine va_calli (va_runV (As := [.ref qi, .int (nI 0), .ref qo, .int (nI 0)]) (rest := []) ⟨hx, hb, hml, hown, hts⟩ (metX3_decryptBlock l dC dI h0 qS qA qB qi qo 1 en cA cD cI cO K gA gB fi fo hg s.heap.size) (cwV 4 hts (lw_V q348 q350 qs11 q20 q351) rfl rfl rfl (by decide +kernel) ⟨Nat.le_of_ble_eq_true rfl, Nat.le_of_ble_eq_true rfl⟩) ⟨fun a U g mk q => by obtain ⟨q0, q1, qP, qK, qD⟩ := q; exact ⟨q0, q1, qP, va_K.moved (u := U) (U := U.calling g mk a) (Vm.Alike.refl U.vm) qK, qD⟩, va_recv hK hP (ci := 3) (q0 := 0) rfl rfl, fun U hU hW => ⟨rfl, by rw [hU], by rw [hU]; exact hPc, va_K.moved hW.alike hKc, hDc.weaken (fun _ _ _ _ => trivial)⟩⟩ rfl rfl hl.1 rfl (lv_room (Nat.le_of_ble_eq_true rfl)) dX3_processBlock_81 ⟨Nat.le_of_ble_eq_true rfl, Nat.le_of_ble_eq_true rfl⟩) hS (fun q _ h => hFc q h) hFc (fun r1 u t H1 locs ht hvm hw hB hzz hk1 hS => ?_)
    obtain ⟨hP1, hK1, hD1⟩ := hB
    rw [ht] at hP1
    obtain ⟨hP, hD⟩ := va_join (wr := []) (w1 := [(h0, .inr (3, [.ref qS, .ref qA, .ref qB, .int 1, .int en])), (qA, .inl (cA, 32, .inl gA)), (qB, .inl (cD, 32, .inl gB)), (qi, .inl (cI, 8, .inl fi)), (qo, .inl (cO, 8, .inl u))]) hP hD [0, 1, 2, 3, 4] [] rfl rfl (by decide) (by decide) hk1 hFc hP1 hD1
    generalize H1 = H at hP hS ⊢
    have hP : va_P (dC, dI) vwCl [(h0, .inr (3, [.ref qS, .ref qA, .ref qB, .int 1, .int en])), (qA, .inl (cA, 32, .inl gA)), (qB, .inl (cD, 32, .inl gB)), (qi, .inl (cI, 8, .inl fi)), (qo, .inl (cO, 8, .inl u))] H := hP
    have hD : va_D A [(h0, .inr (3, [.ref qS, .ref qA, .ref qB, .int 1, .int en])), (qA, .inl (cA, 32, .inl gA)), (qB, .inl (cD, 32, .inl gB)), (qi, .inl (cI, 8, .inl fi)), (qo, .inl (cO, 8, .inl u))] := hD
    have hw2 : (tq_w u 0, tq_w u 4) = if en = 0 then tq_xD K 32 (-957401312) (tq_w fi 0) (tq_w fi 4) else tq_xE K 32 0 (tq_w fi 0) (tq_w fi 4) := hw.trans (if_pos h9).symm
    have hP9 := hP.sub (ws' := [(h0, .inr (3, [.ref qS, .ref qA, .ref qB, .int 1, .int en])), (qA, .inl (cA, 32, .inl gA)), (qB, .inl (cD, 32, .inl gB)), (qi, .inl (cI, 8, .inl fi)), (qo, .inl (cO, 8, .inl u))]) [0, 1, 2, 3, 4] rfl
    have hD9 := hD.sub (ws' := [(h0, .inr (3, [.ref qS, .ref qA, .ref qB, .int 1, .int en])), (qA, .inl (cA, 32, .inl gA)), (qB, .inl (cD, 32, .inl gB)), (qi, .inl (cI, 8, .inl fi)), (qo, .inl (cO, 8, .inl u))]) [0, 1, 2, 3, 4] (by decide) rfl
    have hK9 := hK.sub (tys' := [(cA, .int), (cD, .int), (cI, .byte), (cO, .byte)]) [0, 1, 2, 3] rfl
    exact W.iret hx hb hr (fun t ht hW => ⟨⟨_, u, rfl, hw2, by rw [ht]; exact hP9, va_K.moved hW.alike hK9, hD9⟩, hS.F ht⟩) hS.2.2 dX3_processBlock_84
  · refine lv_aload_n hx hb dX3_processBlock_63 rfl (lv_at hl 0 rfl) ?_
    refine lv_aload_n hx hb dX3_processBlock_64 rfl (lv_at hl 1 rfl) ?_
    refine lv_iload_n hx hb dX3_processBlock_65 rfl (lv_at hl 2 rfl) ?_
    refine lv_aload_n hx hb dX3_processBlock_66 rfl (lv_at hl 3 rfl) ?_
    refine lv_iload hx hb dX3_processBlock_67 (lv_at hl 4 rfl) ?_
    have hPc := hP.sub (ws' := [(h0, .inr (3, [.ref qS, .ref qA, .ref qB, .int 1, .int en])), (qA, .inl (cA, 32, .inl gA)), (qB, .inl (cD, 32, .inl gB)), (qi, .inl (cI, 8, .inl fi)), (qo, .inl (cO, 8, .inl fo))]) [0, 1, 2, 3, 4] rfl
    have hDc := hD.sub (ws' := [(h0, .inr (3, [.ref qS, .ref qA, .ref qB, .int 1, .int en])), (qA, .inl (cA, 32, .inl gA)), (qB, .inl (cD, 32, .inl gB)), (qi, .inl (cI, 8, .inl fi)), (qo, .inl (cO, 8, .inl fo))]) [0, 1, 2, 3, 4] (by decide) rfl
    have hKc := hK.sub (tys' := [(cA, .int), (cD, .int), (cI, .byte), (cO, .byte)]) [0, 1, 2, 3] rfl
    have hFc := va_free (wc := [(h0, .inr (3, [.ref qS, .ref qA, .ref qB, .int 1, .int en])), (qA, .inl (cA, 32, .inl gA)), (qB, .inl (cD, 32, .inl gB)), (qi, .inl (cI, 8, .inl fi)), (qo, .inl (cO, 8, .inl fo))]) hD hS hA [0, 1, 2, 3, 4] rfl
    refine va_calli (va_runV (As := [.ref qi, .int (nI 0), .ref qo, .int (nI 0)]) (rest := []) ⟨hx, hb, hml, hown, hts⟩ (metX3_encryptBlock l dC dI h0 qS qA qB qi qo 1 en cA cD cI cO K gA gB fi fo hg s.heap.size) (cwV 4 hts (lw_V q340 q342 qs9 q20 q343) rfl rfl rfl (by decide +kernel) ⟨Nat.le_of_ble_eq_true rfl, Nat.le_of_ble_eq_true rfl⟩) ⟨fun a U g mk q => by obtain ⟨q0, q1, qP, qK, qD⟩ := q; exact ⟨q0, q1, qP, va_K.moved (u := U) (U := U.calling g mk a) (Vm.Alike.refl U.vm) qK, qD⟩, va_recv hK hP (ci := 3) (q0 := 0) rfl rfl, fun U hU hW => ⟨rfl, by rw [hU], by rw [hU]; exact hPc, va_K.moved hW.alike hKc, hDc.weaken (fun _ _ _ _ => trivial)⟩⟩ rfl rfl hl.1 rfl (lv_room (Nat.le_of_ble_eq_true rfl)) dX3_processBlock_69 ⟨Nat.le_of_ble_eq_true rfl, Nat.le_of_ble_eq_true rfl⟩) hS (fun q _ h => hFc q h) hFc (fun r1 u t H1 locs ht hvm hw hB hzz hk1 hS => ?_)
    obtain ⟨hP1, hK1, hD1⟩ := hB
    rw [ht] at hP1
    obtain ⟨hP, hD⟩ := va_join (wr := []) (w1 := [(h0, .inr (3, [.ref qS, .ref qA, .ref qB, .int 1, .int en])), (qA, .inl (cA, 32, .inl gA)), (qB, .inl (cD, 32, .inl gB)), (qi, .inl (cI, 8, .inl fi)), (qo, .inl (cO, 8, .inl u))]) hP hD [0, 1, 2, 3, 4] [] rfl rfl (by decide) (by decide) hk1 hFc hP1 hD1
    generalize H1 = H at hP hS ⊢
    have hP : va_P (dC, dI) vwCl [(h0, .inr (3, [.ref qS, .ref qA, .ref qB, .int 1, .int en])), (qA, .inl (cA, 32, .inl gA)), (qB, .inl (cD, 32, .inl gB)), (qi, .inl (cI, 8, .inl fi)), (qo, .inl (cO, 8, .inl u))] H := hP
    have hD : va_D A [(h0, .inr (3, [.ref qS, .ref qA, .ref qB, .int 1, .int en])), (qA, .inl (cA, 32, .inl gA)), (qB, .inl (cD, 32, .inl gB)), (qi, .inl (cI, 8, .inl fi)), (qo, .inl (cO, 8, .inl u))] := hD
    refine lv_goto (tgt := 84) hx hb dX3_processBlock_72 (by decide) ?_
    have hw2 : (tq_w u 0, tq_w u 4) = if en = 0 then tq_xD K 32 (-957401312) (tq_w fi 0) (tq_w fi 4) else tq_xE K 32 0 (tq_w fi 0) (tq_w fi 4) := hw.trans (if_neg h9).symm
    have hP9 := hP.sub (ws' := [(h0, .inr (3, [.ref qS, .ref qA, .ref qB, .int 1, .int en])), (qA, .inl (cA, 32, .inl gA)), (qB, .inl (cD, 32, .inl gB)), (qi, .inl (cI, 8, .inl fi)), (qo, .inl (cO, 8, .inl u))]) [0, 1, 2, 3, 4] rfl
    have hD9 := hD.sub (ws' := [(h0, .inr (3, [.ref qS, .ref qA, .ref qB, .int 1, .int en])), (qA, .inl (cA, 32, .inl gA)), (qB, .inl (cD, 32, .inl gB)), (qi, .inl (cI, 8, .inl fi)), (qo, .inl (cO, 8, .inl u))]) [0, 1, 2, 3, 4] (by decide) rfl
    have hK9 := hK.sub (tys' := [(cA, .int), (cD, .int), (cI, .byte), (cO, .byte)]) [0, 1, 2, 3] rfl
    exact W.iret hx hb hr (fun t ht hW => ⟨⟨_, u, rfl, hw2, by rw [ht]; exact hP9, va_K.moved hW.alike hK9, hD9⟩, hS.F ht⟩) hS.2.2 dX3_processBlock_84
end
section
/-! TeaDesk -/
theorem tq_keys {f u1 u2 u3 u4 : Nat → Int32} {a1 a2 a3 a4 : Int32} {b : Nat} (h1 : tq_w u1 b = a1 ∧ ∀ j, j < b ∨ b + 4 ≤ j → u1 j = f j) (h2 : tq_w u2 (b + 4) = a2 ∧ ∀ j, j < b + 4 ∨ b + 4 + 4 ≤ j → u2 j = u1 j) (h3 : tq_w u3 (b + 8) = a3 ∧ ∀ j, j < b + 8 ∨ b + 8 + 4 ≤ j → u3 j = u2 j) (h4 : tq_w u4 (b + 12) = a4 ∧ ∀ j, j < b + 12 ∨ b + 12 + 4 ≤ j → u4 j = u3 j) :
    (tq_w u4 b = a1 ∧ tq_w u4 (b + 4) = a2 ∧ tq_w u4 (b + 8) = a3 ∧ tq_w u4 (b + 12) = a4) ∧ ∀ j, j < b → u4 j = f j := by
  refine ⟨⟨?_, ?_, ?_, h4.1⟩, fun j hj => ?_⟩
  · rw [← h1.1]
    exact tq_eq (fun j _ hj => by rw [h4.2 j (Or.inl (by omega)), h3.2 j (Or.inl (by omega)), h2.2 j (Or.inl (by omega))])
  · rw [← h2.1]
    exact tq_eq (fun j _ hj => by rw [h4.2 j (Or.inl (by omega)), h3.2 j (Or.inl (by omega))])
  · rw [← h3.1]
    exact tq_eq (fun j _ hj => by rw [h4.2 j (Or.inl (by omega))])
  · rw [h4.2 j (Or.inl (by omega)), h3.2 j (Or.inl (by omega)), h2.2 j (Or.inl (by omega)), h1.2 j (Or.inl (by omega))]
theorem tq_copy {fk g u : Nat → Int32} (hg : ∀ j, j < 16 → g j = vp_nar .byte (fk j)) (hu : ∀ j, j < 16 → u j = g j) : ∀ t, t < 4 → tq_w u (4 * t) = tq_w fk (4 * t) :=
  fun t ht => tq_cg (fun d hd k hk => by rw [hu _ (by omega), hg _ (by omega)]; exact b_nar _ hk)
theorem tq_copy8 {fo g : Nat → Int32} (hg : ∀ j, j < 8 → g j = vp_nar .byte (fo j)) : tq_w g 0 = tq_w fo 0 ∧ tq_w g 4 = tq_w fo 4 :=
  ⟨tq_cg (fun d hd k hk => by rw [hg _ (by omega)]; exact b_nar _ hk), tq_cg (fun d hd k hk => by rw [hg _ (by omega)]; exact b_nar _ hk)⟩
theorem tq_fin_t {u fk : Nat → Int32} {lk kd x y : Int32} (hk : ∀ t, t < 4 → tq_w u (4 * t) = tq_w fk (4 * t)) (h9 : kd &&& 4 = 0) : (if lk = 0 then tq_tD (tq_w u 0) (tq_w u 4) (tq_w u 8) (tq_w u 12) 32 (-957401312) x y else tq_tE (tq_w u 0) (tq_w u 4) (tq_w u 8) (tq_w u 12) 32 0 x y) = tq_C lk kd (fun j => tq_w fk (4 * j)) x y := by
  unfold tq_C tq_D tq_E
  rw [if_pos h9, if_pos h9]
  have e0 : tq_w u 0 = tq_w fk (4 * 0) := hk 0 (by omega)
  have e1 : tq_w u 4 = tq_w fk (4 * 1) := hk 1 (by omega)
  have e2 : tq_w u 8 = tq_w fk (4 * 2) := hk 2 (by omega)
  have e3 : tq_w u 12 = tq_w fk (4 * 3) := hk 3 (by omega)
  rw [e0, e1, e2, e3]
theorem tq_fin_x {u fk : Nat → Int32} {lk kd x y : Int32} (hk : ∀ t, t < 4 → tq_w u (4 * t) = tq_w fk (4 * t)) (h9 : ¬ kd &&& 4 = 0) : (if lk = 0 then tq_xD (fun j => tq_w u (4 * j)) 32 (-957401312) x y else tq_xE (fun j => tq_w u (4 * j)) 32 0 x y) = tq_C lk kd (fun j => tq_w fk (4 * j)) x y := by
  unfold tq_C tq_D tq_E
  rw [if_neg h9, if_neg h9, tq_xD_cg (K := fun j => tq_w u (4 * j)) (K' := fun j => tq_w fk (4 * j)) hk, tq_xE_cg (K := fun j => tq_w u (4 * j)) (K' := fun j => tq_w fk (4 * j)) hk]
/-- the interface's two methods, and what a call through it asks -/
def xBC_init : MethodName := ⟨"BlockCipher", "init", "(ZLCipherParameters;)V"⟩
def xBC_proc : MethodName := ⟨"BlockCipher", "processBlock", "([BI[BI)I"⟩
def tk_FF (U : State) : Prop := (va_Fw RX2 xBC_init yX2_init_2 U ∧ va_Fw RX2 xBC_proc yX2_processBlock U) ∧ (va_Fw RX3 xBC_init yX3_init_2 U ∧ va_Fw RX3 xBC_proc yX3_processBlock U)
theorem tk_FF.moved {u U : State} (hvm : u.vm.Alike U.vm) (h : tk_FF u) : tk_FF U := ⟨⟨va_Fw.moved (by decide +kernel) hvm h.1.1, va_Fw.moved (by decide +kernel) hvm h.1.2⟩, ⟨va_Fw.moved (by decide +kernel) hvm h.2.1, va_Fw.moved (by decide +kernel) hvm h.2.2⟩⟩
theorem tk_wF {own : String} {idx : Nat} {C : String} {x y : MethodName} {b : ByteArray} {L : Nat} {r : Option FieldType} (h1 : Cond.methodLink own idx x ∈ lw_all) (h2 : Cond.selects C x y ∈ lw_all) (h3 : Cond.instanceMethod y ∈ lw_all) (h4 : Cond.initialized y.cls ∈ lw_all) (h5 : Cond.code y b L r ∈ lw_all) : GoodIn lw_all (va_wsF own idx C x y (ws_ y b L r)) := by
  refine lw_app ?_ (lw_meth h5)
  intro w hw
  simp only [List.mem_cons, List.not_mem_nil, or_false] at hw
  rcases hw with e | e | e | e
  · rw [e]; exact h1
  · rw [e]; exact h2
  · rw [e]; exact h3
  · rw [e]; exact h4
set_option maxHeartbeats 4000000 in
set_option maxRecDepth 100000 in
/-- TeaDesk() -/
theorem metX0_init (l : Launch) (dC : Nat → ClassId) (dI : Nat → Nat → Nat) (h0 sz : Nat) : Met l yX0_init (ws_ yX0_init cX0_init 1 none) ({ frames := 1, cells := 3, slots := 48, locals := 12 }) (va_Pc [.ref h0] (fun U => U.heap.size = sz ∧ va_P (dC, dI) vwCl [(h0, .inr (0, [.null, .null, .null]))] U.heap ∧ va_K (dC, dI) vwCl [] U ∧ va_D (fun _ => True) [(h0, .inr (0, [.null, .null, .null]))])) (va_Qv (fun _ : Unit => True) (fun _ t => ∃ (qk qb qo : Nat) (ck cb co : ClassId), va_P (dC, dI) vwCl [(h0, .inr (0, [.ref qk, .ref qb, .ref qo])), (qk, .inl (ck, 32, .inl (fun _ => 0))), (qb, .inl (cb, 8, .inl (fun _ => 0))), (qo, .inl (co, 8, .inl (fun _ => 0)))] t.heap ∧ va_K (dC, dI) vwCl [(ck, .byte), (cb, .byte), (co, .byte)] t ∧ va_D (va_A [(h0, .inr (0, [.null, .null, .null]))] sz) [(h0, .inr (0, [.ref qk, .ref qb, .ref qo])), (qk, .inl (ck, 32, .inl (fun _ => 0))), (qb, .inl (cb, 8, .inl (fun _ => 0))), (qo, .inl (co, 8, .inl (fun _ => 0)))]) (va_A [(h0, .inr (0, [.null, .null, .null]))] sz)) 3 48 (va_A [(h0, .inr (0, [.null, .null, .null]))] sz) := by
  refine Met.ofW (cc := cX0_init) (maxL := 1) (ret := none) (by decide) rfl ?_
  intro p e s m args below meth c s₁ B hml hv
  obtain ⟨rfl, hsz, hP, hK, hD0⟩ := hv
  have hx := B.exec
  have hb := B.bytes
  have hr := B.returns
  have hts := atoms_spec (ws := ws_ yX0_init cX0_init 1 none) B.pre
  have hts : ∀ w ∈ lw_all, w.before _ s = true := fun w h => hts w (List.mem_cons_of_mem _ h)
  have hown : s.vm.findClass RX0 = some m.cls := findClass_of_methodNamed B.named
  have hlocks := B.notSynchronized
  have hin : meth.name = "<init>" := (name_of_methodNamed B.named B.method).1
  subst hsz
  have hD := hD0.self (sz := s.heap.size)
  generalize hAe : va_A [(h0, .inr (0, [.null, .null, .null]))] s.heap.size = A at hD ⊢
  have hA : ∀ q : Nat, s.heap.size ≤ q → A q := fun q h => by rw [← hAe]; exact Or.inr h
  have hS : va_S A s.heap s.heap [] := va_S.rf
  have hl := lv_entry ([.ref h0]) (n := 1) (Nat.le_of_ble_eq_true rfl)
  rw [lg_entry_eq]
  generalize (lg_sl ([.ref h0]) ++ List.replicate (1 - (lg_sl ([.ref h0])).length) Slot.unset).toArray = ls at hl ⊢
  have hl : lv_has ls 1 [(0, .ref h0)] := hl
  have hP : va_P (dC, dI) vwCl [(h0, .inr (0, [.null, .null, .null]))] s.heap := hP
  refine lv_aload_n hx hb dX0_init_0 rfl (lv_at hl 0 rfl) ?_
  refine W.objInit hx hb hown (hts _ q36) (hts _ q37) (hts _ q38) rfl (by rw [hml]; exact hl.1) rfl dX0_init_1 (Nat.le_of_ble_eq_true rfl) (Nat.le_of_ble_eq_true rfl) ?_
  refine W.eq (g2 := F0 m 4 ls []) rfl ?_
  refine lv_aload_n hx hb dX0_init_4 rfl (lv_at hl 0 rfl) ?_
  refine lv_bipush (v := 32) hx hb dX0_init_5 (by decide) ?_
  refine va_newa (atype := .byte) (ty := .byte) (N' := 32) (a0 := (32, .inl (fun _ => 0))) hx hb (hts _ q49) rfl hK hP hD hS hA (fun _ => rfl) (by decide) (by decide) (Nat.le_of_ble_eq_true rfl) (Nat.le_of_ble_eq_true rfl) (Nat.le_of_ble_eq_true rfl) dX0_init_7 (fun qk ck H hK hP hD hS => ?_)
  have hP : va_P (dC, dI) vwCl [(h0, .inr (0, [.null, .null, .null])), (qk, .inl (ck, 32, .inl (fun _ => 0)))] H := hP
  have hD : va_D A [(h0, .inr (0, [.null, .null, .null])), (qk, .inl (ck, 32, .inl (fun _ => 0)))] := hD
  have hK : va_K (dC, dI) vwCl [(ck, .byte)] s := hK
  refine va_putF (D := (dC, dI)) (ci := 0) (v := .ref qk) (ty := .array .byte) (C := RX0) (T := TX0) (N := 3) hx hb hts in_X0 tyX0 tyX0_ok nmX0 hown hK hP hD hS 0 rfl rfl 0 (by decide) (hts _ q39) (fun _ h9 => h9) rfl hin rfl (by decide +kernel) rfl rfl (Nat.le_of_ble_eq_true rfl) dX0_init_9 (fun H locs hP hD hS => ?_)
  have hP : va_P (dC, dI) vwCl [(h0, .inr (0, [.ref qk, .null, .null])), (qk, .inl (ck, 32, .inl (fun _ => 0)))] H := hP
  have hD : va_D A [(h0, .inr (0, [.ref qk, .null, .null])), (qk, .inl (ck, 32, .inl (fun _ => 0)))] := hD
  refine lv_aload_n hx hb dX0_init_12 rfl (lv_at hl 0 rfl) ?_
  refine lv_bipush (v := 8) hx hb dX0_init_13 (by decide) ?_
  refine va_newa (atype := .byte) (ty := .byte) (N' := 8) (a0 := (8, .inl (fun _ => 0))) hx hb (hts _ q49) rfl hK hP hD hS hA (fun _ => rfl) (by decide) (by decide) (Nat.le_of_ble_eq_true rfl) (Nat.le_of_ble_eq_true rfl) (Nat.le_of_ble_eq_true rfl) dX0_init_15 (fun qb cb H hK hP hD hS => ?_)
  have hP : va_P (dC, dI) vwCl [(h0, .inr (0, [.ref qk, .null, .null])), (qk, .inl (ck, 32, .inl (fun _ => 0))), (qb, .inl (cb, 8, .inl (fun _ => 0)))] H := hP
  have hD : va_D A [(h0, .inr (0, [.ref qk, .null, .null])), (qk, .inl (ck, 32, .inl (fun _ => 0))), (qb, .inl (cb, 8, .inl (fun _ => 0)))] := hD
  have hK : va_K (dC, dI) vwCl [(ck, .byte), (cb, .byte)] s := hK
  refine va_putF (D := (dC, dI)) (ci := 0) (v := .ref qb) (ty := .array .byte) (C := RX0) (T := TX0) (N := 3) hx hb hts in_X0 tyX0 tyX0_ok nmX0 hown hK hP hD hS 0 rfl rfl 1 (by decide) (hts _ q40) (fun _ h9 => h9) rfl hin rfl (by decide +kernel) rfl rfl (Nat.le_of_ble_eq_true rfl) dX0_init_17 (fun H locs hP hD hS => ?_)
  have hP : va_P (dC, dI) vwCl [(h0, .inr (0, [.ref qk, .ref qb, .null])), (qk, .inl (ck, 32, .inl (fun _ => 0))), (qb, .inl (cb, 8, .inl (fun _ => 0)))] H := hP
  have hD : va_D A [(h0, .inr (0, [.ref qk, .ref qb, .null])), (qk, .inl (ck, 32, .inl (fun _ => 0))), (qb, .inl (cb, 8, .inl (fun _ => 0)))] := hD
  refine lv_aload_n hx hb dX0_init_20 rfl (lv_at hl 0 rfl) ?_
  refine lv_bipush (v := 8) hx hb dX0_init_21 (by decide) ?_
  refine va_newa (atype := .byte) (ty := .byte) (N' := 8) (a0 := (8, .inl (fun _ => 0))) hx hb (hts _ q49) rfl hK hP hD hS hA (fun _ => rfl) (by decide) (by decide) (Nat.le_of_ble_eq_true rfl) (Nat.le_of_ble_eq_true rfl) (Nat.le_of_ble_eq_true rfl) dX0_init_23 (fun qo co H hK hP hD hS => ?_)
  have hP : va_P (dC, dI) vwCl [(h0, .inr (0, [.ref qk, .ref qb, .null])), (qk, .inl (ck, 32, .inl (fun _ => 0))), (qb, .inl (cb, 8, .inl (fun _ => 0))), (qo, .inl (co, 8, .inl (fun _ => 0)))] H := hP
  have hD : va_D A [(h0, .inr (0, [.ref qk, .ref qb, .null])), (qk, .inl (ck, 32, .inl (fun _ => 0))), (qb, .inl (cb, 8, .inl (fun _ => 0))), (qo, .inl (co, 8, .inl (fun _ => 0)))] := hD
  have hK : va_K (dC, dI) vwCl [(ck, .byte), (cb, .byte), (co, .byte)] s := hK
  refine va_putF (D := (dC, dI)) (ci := 0) (v := .ref qo) (ty := .array .byte) (C := RX0) (T := TX0) (N := 3) hx hb hts in_X0 tyX0 tyX0_ok nmX0 hown hK hP hD hS 0 rfl rfl 2 (by decide) (hts _ q41) (fun _ h9 => h9) rfl hin rfl (by decide +kernel) rfl rfl (Nat.le_of_ble_eq_true rfl) dX0_init_25 (fun H locs hP hD hS => ?_)
  have hP : va_P (dC, dI) vwCl [(h0, .inr (0, [.ref qk, .ref qb, .ref qo])), (qk, .inl (ck, 32, .inl (fun _ => 0))), (qb, .inl (cb, 8, .inl (fun _ => 0))), (qo, .inl (co, 8, .inl (fun _ => 0)))] H := hP
  have hD : va_D A [(h0, .inr (0, [.ref qk, .ref qb, .ref qo])), (qk, .inl (ck, 32, .inl (fun _ => 0))), (qb, .inl (cb, 8, .inl (fun _ => 0))), (qo, .inl (co, 8, .inl (fun _ => 0)))] := hD
  have hP9 := hP.sub (ws' := [(h0, .inr (0, [.ref qk, .ref qb, .ref qo])), (qk, .inl (ck, 32, .inl (fun _ => 0))), (qb, .inl (cb, 8, .inl (fun _ => 0))), (qo, .inl (co, 8, .inl (fun _ => 0)))]) [0, 1, 2, 3] rfl
  have hD9 := hD.sub (ws' := [(h0, .inr (0, [.ref qk, .ref qb, .ref qo])), (qk, .inl (ck, 32, .inl (fun _ => 0))), (qb, .inl (cb, 8, .inl (fun _ => 0))), (qo, .inl (co, 8, .inl (fun _ => 0)))]) [0, 1, 2, 3] (by decide) rfl
  have hK9 := hK.sub (tys' := [(ck, .byte), (cb, .byte), (co, .byte)]) [0, 1, 2] rfl
  exact W.vret hx hb hr (fun t ht hW => ⟨⟨(), rfl, trivial, qk, qb, qo, ck, cb, co, by rw [ht]; exact hP9, va_K.moved hW.alike hK9, hD9⟩, hS.F ht⟩) hS.2.2 dX0_init_28
set_option maxHeartbeats 4000000 in
set_option maxRecDepth 100000 in
/-- key: half of the key -/
theorem metX0_key (l : Launch) (dC : Nat → ClassId) (dI : Nat → Nat → Nat) (h0 qk qb qo : Nat) (ck : ClassId) (f : Nat → Int32) (hf a1 a2 a3 a4 : Int32) (sz : Nat) : Met l yX0_key (ws_ yX0_key cX0_key 7 none) ({ frames := 1, cells := 0, slots := 0, locals := 30 }) (va_Pc [.ref h0, .int hf, .int a1, .int a2, .int a3, .int a4] (fun U => U.heap.size = sz ∧ va_P (dC, dI) vwCl [(h0, .inr (0, [.ref qk, .ref qb, .ref qo])), (qk, .inl (ck, 32, .inl f))] U.heap ∧ va_K (dC, dI) vwCl [(ck, .byte)] U ∧ va_D (fun _ => True) [(h0, .inr (0, [.ref qk, .ref qb, .ref qo])), (qk, .inl (ck, 32, .inl f))])) (va_Qv (fun u : Nat → Int32 => (hf &&& 1 = 0 → tq_w u 0 = a1 ∧ tq_w u 4 = a2 ∧ tq_w u 8 = a3 ∧ tq_w u 12 = a4) ∧ (¬ hf &&& 1 = 0 → ∀ j, j < 16 → u j = f j)) (fun u t => va_P (dC, dI) vwCl [(h0, .inr (0, [.ref qk, .ref qb, .ref qo])), (qk, .inl (ck, 32, .inl u))] t.heap ∧ va_K (dC, dI) vwCl [(ck, .byte)] t ∧ va_D (va_A [(h0, .inr (0, [.ref qk, .ref qb, .ref qo])), (qk, .inl (ck, 32, .inl f))] sz) [(h0, .inr (0, [.ref qk, .ref qb, .ref qo])), (qk, .inl (ck, 32, .inl u))]) (va_A [(h0, .inr (0, [.ref qk, .ref qb, .ref qo])), (qk, .inl (ck, 32, .inl f))] sz)) 0 0 (va_A [(h0, .inr (0, [.ref qk, .ref qb, .ref qo])), (qk, .inl (ck, 32, .inl f))] sz) := by
  refine Met.ofW (cc := cX0_key) (maxL := 7) (ret := none) (by decide) rfl ?_
  intro p e s m args below meth c s₁ B hml hv
  obtain ⟨rfl, hsz, hP, hK, hD0⟩ := hv
  have hx := B.exec
  have hb := B.bytes
  have hr := B.returns
  have hts := atoms_spec (ws := ws_ yX0_key cX0_key 7 none) B.pre
  have hts : ∀ w ∈ lw_all, w.before _ s = true := fun w h => hts w (List.mem_cons_of_mem _ h)
  have hown : s.vm.findClass RX0 = some m.cls := findClass_of_methodNamed B.named
  have hlocks := B.notSynchronized
  subst hsz
  have hD := hD0.self (sz := s.heap.size)
  generalize hAe : va_A [(h0, .inr (0, [.ref qk, .ref qb, .ref qo])), (qk, .inl (ck, 32, .inl f))] s.heap.size = A at hD ⊢
  have hA : ∀ q : Nat, s.heap.size ≤ q → A q := fun q h => by rw [← hAe]; exact Or.inr h
  have hS : va_S A s.heap s.heap [] := va_S.rf
  have hl := lv_entry ([.ref h0, .int hf, .int a1, .int a2, .int a3, .int a4]) (n := 7) (Nat.le_of_ble_eq_true rfl)
  rw [lg_entry_eq]
  generalize (lg_sl ([.ref h0, .int hf, .int a1, .int a2, .int a3, .int a4]) ++ List.replicate (7 - (lg_sl ([.ref h0, .int hf, .int a1, .int a2, .int a3, .int a4])).length) Slot.unset).toArray = ls at hl ⊢
  have hl : lv_has ls 7 [(0, .ref h0), (1, .int hf), (2, .int a1), (3, .int a2), (4, .int a3), (5, .int a4)] := hl
  have hP : va_P (dC, dI) vwCl [(h0, .inr (0, [.ref qk, .ref qb, .ref qo])), (qk, .inl (ck, 32, .inl f))] s.heap := hP
  obtain ⟨j, hj, ej⟩ := pk_andE hf (m := 1) 1 (by decide)
  refine lv_iload_n hx hb dX0_key_0 rfl (lv_at hl 1 rfl) ?_
  refine lv_iconst (v := 1) hx hb dX0_key_1 (by decide) ?_
  refine lv_iand hx hb dX0_key_2 ?_
  refine tk_as (nI j) (ej) ?_
  refine lv_iconst (v := 4) hx hb dX0_key_3 (by decide) ?_
  refine lv_ishl hx hb dX0_key_4 ?_
  refine tk_as (nI (j * 16)) (pk_shlN ((4 : Int32) &&& 31) 4 (by decide +kernel) (by omega)) ?_
  refine lv_istore (lv' := [(6, .int (nI (j * 16))), (0, .ref h0), (1, .int hf), (2, .int a1), (3, .int a2), (4, .int a3), (5, .int a4)]) hx hb dX0_key_5 hl (by decide) rfl (fun ls hl => ?_)
  refine lv_aload_n hx hb dX0_key_7 rfl (lv_at hl 1 rfl) ?_
  refine va_get (D := (dC, dI)) (ci := 0) (v := .ref qk) (C := RX0) (T := TX0) (N := 3) hx hb hts in_X0 hown hK hP 0 rfl rfl 0 (by decide) (hts _ q39) (fun _ h9 => h9) rfl dX0_key_8 ?_
  refine lv_iload hx hb dX0_key_11 (lv_at hl 0 rfl) ?_
  refine lv_iload_n hx hb dX0_key_13 rfl (lv_at hl 3 rfl) ?_
  have hPc := hP.sub (ws' := [(qk, .inl (ck, 32, .inl f))]) [1] rfl
  have hDc := hD.sub (ws' := [(qk, .inl (ck, 32, .inl f))]) [1] (by decide) rfl
  have hKc := hK.sub (tys' := [(ck, .byte)]) [0] rfl
  have hFc := va_free (wc := [(qk, .inl (ck, 32, .inl f))]) hD hS hA [1] rfl
  refine va_callv (va_runS (As := [.ref qk, .int (nI (j * 16)), .int a1]) (rest := []) ⟨hx, hb, hml, hown, hts⟩ (metX0_word l dC dI qk ck 32 f a1 (j * 16) (by omega) (by omega) s.heap.size) (va_cwS 3 hts (lw_S q54 q55 q17 q56) rfl rfl rfl (by decide +kernel) ⟨Nat.le_of_ble_eq_true rfl, Nat.le_of_ble_eq_true rfl⟩) ⟨fun a U g mk q => by obtain ⟨q0, q1, qP, qK, qD⟩ := q; exact ⟨q0, q1, qP, va_K.moved (u := U) (U := U.calling g mk a) (Vm.Alike.refl U.vm) qK, qD⟩, fun U hU hW => ⟨rfl, by rw [hU], by rw [hU]; exact hPc, va_K.moved hW.alike hKc, hDc.weaken (fun _ _ _ _ => trivial)⟩⟩ rfl rfl hl.1 rfl (lv_room (Nat.le_of_ble_eq_true rfl)) dX0_key_14 ⟨Nat.le_of_ble_eq_true rfl, Nat.le_of_ble_eq_true rfl⟩) hS (fun q _ h => hFc q h) hFc (fun u1 t H1 locs ht hvm hw1 hB hzz hk1 hS => ?_)
  obtain ⟨hP1, hK1, hD1⟩ := hB
  rw [ht] at hP1
  obtain ⟨hP, hD⟩ := va_join (wr := [(h0, .inr (0, [.ref qk, .ref qb, .ref qo]))]) (w1 := [(qk, .inl (ck, 32, .inl u1))]) hP hD [1] [0] rfl rfl (by decide) (by decide) hk1 hFc hP1 hD1
  generalize H1 = H at hP hS ⊢
  have hP : va_P (dC, dI) vwCl [(h0, .inr (0, [.ref qk, .ref qb, .ref qo])), (qk, .inl (ck, 32, .inl u1))] H := hP
  have hD : va_D A [(h0, .inr (0, [.ref qk, .ref qb, .ref qo])), (qk, .inl (ck, 32, .inl u1))] := hD
  refine lv_aload_n hx hb dX0_key_17 rfl (lv_at hl 1 rfl) ?_
  refine va_get (D := (dC, dI)) (ci := 0) (v := .ref qk) (C := RX0) (T := TX0) (N := 3) hx hb hts in_X0 hown hK hP 0 rfl rfl 0 (by decide) (hts _ q39) (fun _ h9 => h9) rfl dX0_key_18 ?_
  refine lv_iload hx hb dX0_key_21 (lv_at hl 0 rfl) ?_
  refine lv_iconst (v := 4) hx hb dX0_key_23 (by decide) ?_
  refine lv_iadd hx hb dX0_key_24 ?_
  refine tk_as (nI (j * 16 + 4)) (nI_add (j * 16) 4) ?_
  refine lv_iload_n hx hb dX0_key_25 rfl (lv_at hl 4 rfl) ?_
  have hPc := hP.sub (ws' := [(qk, .inl (ck, 32, .inl u1))]) [1] rfl
  have hDc := hD.sub (ws' := [(qk, .inl (ck, 32, .inl u1))]) [1] (by decide) rfl
  have hKc := hK.sub (tys' := [(ck, .byte)]) [0] rfl
  have hFc := va_free (wc := [(qk, .inl (ck, 32, .inl u1))]) hD hS hA [1] rfl
  refine va_callv (va_runS (As := [.ref qk, .int (nI (j * 16 + 4)), .int a2]) (rest := []) ⟨hx, hb, hml, hown, hts⟩ (metX0_word l dC dI qk ck 32 u1 a2 (j * 16 + 4) (by omega) (by omega) H.size) (va_cwS 3 hts (lw_S q54 q55 q17 q56) rfl rfl rfl (by decide +kernel) ⟨Nat.le_of_ble_eq_true rfl, Nat.le_of_ble_eq_true rfl⟩) ⟨fun a U g mk q => by obtain ⟨q0, q1, qP, qK, qD⟩ := q; exact ⟨q0, q1, qP, va_K.moved (u := U) (U := U.calling g mk a) (Vm.Alike.refl U.vm) qK, qD⟩, fun U hU hW => ⟨rfl, by rw [hU], by rw [hU]; exact hPc, va_K.moved hW.alike hKc, hDc.weaken (fun _ _ _ _ => trivial)⟩⟩ rfl rfl hl.1 rfl (lv_room (Nat.le_of_ble_eq_true rfl)) dX0_key_26 ⟨Nat.le_of_ble_eq_true rfl, Nat.le_of_ble_eq_true rfl⟩) hS (fun q _ h => hFc q h) hFc (fun u2 t H1 locs ht hvm hw2 hB hzz hk1 hS => ?_)
  obtain ⟨hP1, hK1, hD1⟩ := hB
  rw [ht] at hP1
  obtain ⟨hP, hD⟩ := va_join (wr := [(h0, .inr (0, [.ref qk, .ref qb, .ref qo]))]) (w1 := [(qk, .inl (ck, 32, .inl u2))]) hP hD [1] [0] rfl rfl (by decide) (by decide) hk1 hFc hP1 hD1
  generalize H1 = H at hP hS ⊢
  have hP : va_P (dC, dI) vwCl [(h0, .inr (0, [.ref qk, .ref qb, .ref qo])), (qk, .inl (ck, 32, .inl u2))] H := hP
  have hD : va_D A [(h0, .inr (0, [.ref qk, .ref qb, .ref qo])), (qk, .inl (ck, 32, .inl u2))] := hD
  refine lv_aload_n hx hb dX0_key_29 rfl (lv_at hl 1 rfl) ?_
  refine va_get (D := (dC, dI)) (ci := 0) (v := .ref qk) (C := RX0) (T := TX0) (N := 3) hx hb hts in_X0 hown hK hP 0 rfl rfl 0 (by decide) (hts _ q39) (fun _ h9 => h9) rfl dX0_key_30 ?_
  refine lv_iload hx hb dX0_key_33 (lv_at hl 0 rfl) ?_
  refine lv_bipush (v := 8) hx hb dX0_key_35 (by decide) ?_
  refine lv_iadd hx hb dX0_key_37 ?_
  refine tk_as (nI (j * 16 + 8)) (nI_add (j * 16) 8) ?_
  refine lv_iload hx hb dX0_key_38 (lv_at hl 5 rfl) ?_
  have hPc := hP.sub (ws' := [(qk, .inl (ck, 32, .inl u2))]) [1] rfl
  have hDc := hD.sub (ws' := [(qk, .inl (ck, 32, .inl u2))]) [1] (by decide) rfl
  have hKc := hK.sub (tys' := [(ck, .byte)]) [0] rfl
  have hFc := va_free (wc := [(qk, .inl (ck, 32, .inl u2))]) hD hS hA [1] rfl
  refine va_callv (va_runS (As := [.ref qk, .int (nI (j * 16 + 8)), .int a3]) (rest := []) ⟨hx, hb, hml, hown, hts⟩ (metX0_word l dC dI qk ck 32 u2 a3 (j * 16 + 8) (by omega) (by omega) H.size) (va_cwS 3 hts (lw_S q54 q55 q17 q56) rfl rfl rfl (by decide +kernel) ⟨Nat.le_of_ble_eq_true rfl, Nat.le_of_ble_eq_true rfl⟩) ⟨fun a U g mk q => by obtain ⟨q0, q1, qP, qK, qD⟩ := q; exact ⟨q0, q1, qP, va_K.moved (u := U) (U := U.calling g mk a) (Vm.Alike.refl U.vm) qK, qD⟩, fun U hU hW => ⟨rfl, by rw [hU], by rw [hU]; exact hPc, va_K.moved hW.alike hKc, hDc.weaken (fun _ _ _ _ => trivial)⟩⟩ rfl rfl hl.1 rfl (lv_room (Nat.le_of_ble_eq_true rfl)) dX0_key_40 ⟨Nat.le_of_ble_eq_true rfl, Nat.le_of_ble_eq_true rfl⟩) hS (fun q _ h => hFc q h) hFc (fun u3 t H1 locs ht hvm hw3 hB hzz hk1 hS => ?_)
  obtain ⟨hP1, hK1, hD1⟩ := hB
  rw [ht] at hP1
  obtain ⟨hP, hD⟩ := va_join (wr := [(h0, .inr (0, [.ref qk, .ref qb, .ref qo]))]) (w1 := [(qk, .inl (ck, 32, .inl u3))]) hP hD [1] [0] rfl rfl (by decide) (by decide) hk1 hFc hP1 hD1
  generalize H1 = H at hP hS ⊢
  have hP : va_P (dC, dI) vwCl [(h0, .inr (0, [.ref qk, .ref qb, .ref qo])), (qk, .inl (ck, 32, .inl u3))] H := hP
  have hD : va_D A [(h0, .inr (0, [.ref qk, .ref qb, .ref qo])), (qk, .inl (ck, 32, .inl u3))] := hD
  refine lv_aload_n hx hb dX0_key_43 rfl (lv_at hl 1 rfl) ?_
  refine va_get (D := (dC, dI)) (ci := 0) (v := .ref qk) (C := RX0) (T := TX0) (N := 3) hx hb hts in_X0 hown hK hP 0 rfl rfl 0 (by decide) (hts _ q39) (fun _ h9 => h9) rfl dX0_key_44 ?_
  refine lv_iload hx hb dX0_key_47 (lv_at hl 0 rfl) ?_
  refine lv_bipush (v := 12) hx hb dX0_key_49 (by decide) ?_
  refine lv_iadd hx hb dX0_key_51 ?_
  refine tk_as (nI (j * 16 + 12)) (nI_add (j * 16) 12) ?_
  refine lv_iload hx hb dX0_key_52 (lv_at hl 6 rfl) ?_
  have hPc := hP.sub (ws' := [(qk, .inl (ck, 32, .inl u3))]) [1] rfl
  have hDc := hD.sub (ws' := [(qk, .inl (ck, 32, .inl u3))]) [1] (by decide) rfl
  have hKc := hK.sub (tys' := [(ck, .byte)]) [0] rfl
  have hFc := va_free (wc := [(qk, .inl (ck, 32, .inl u3))]) hD hS hA [1] rfl
  refine va_callv (va_runS (As := [.ref qk, .int (nI (j * 16 + 12)), .int a4]) (rest := []) ⟨hx, hb, hml, hown, hts⟩ (metX0_word l dC dI qk ck 32 u3 a4 (j * 16 + 12) (by omega) (by omega) H.size) (va_cwS 3 hts (lw_S q54 q55 q17 q56) rfl rfl rfl (by decide +kernel) ⟨Nat.le_of_ble_eq_true rfl, Nat.le_of_ble_eq_true rfl⟩) ⟨fun a U g mk q => by obtain ⟨q0, q1, qP, qK, qD⟩ := q; exact ⟨q0, q1, qP, va_K.moved (u := U) (U := U.calling g mk a) (Vm.Alike.refl U.vm) qK, qD⟩, fun U hU hW => ⟨rfl, by rw [hU], by rw [hU]; exact hPc, va_K.moved hW.alike hKc, hDc.weaken (fun _ _ _ _ => trivial)⟩⟩ rfl rfl hl.1 rfl (lv_room (Nat.le_of_ble_eq_true rfl)) dX0_key_54 ⟨Nat.le_of_ble_eq_true rfl, Nat.le_of_ble_eq_true rfl⟩) hS (fun q _ h => hFc q h) hFc (fun u4 t H1 locs ht hvm hw4 hB hzz hk1 hS => ?_)
  obtain ⟨hP1, hK1, hD1⟩ := hB
  rw [ht] at hP1
  obtain ⟨hP, hD⟩ := va_join (wr := [(h0, .inr (0, [.ref qk, .ref qb, .ref qo]))]) (w1 := [(qk, .inl (ck, 32, .inl u4))]) hP hD [1] [0] rfl rfl (by decide) (by decide) hk1 hFc hP1 hD1
  generalize H1 = H at hP hS ⊢
  have hP : va_P (dC, dI) vwCl [(h0, .inr (0, [.ref qk, .ref qb, .ref qo])), (qk, .inl (ck, 32, .inl u4))] H := hP
  have hD : va_D A [(h0, .inr (0, [.ref qk, .ref qb, .ref qo])), (qk, .inl (ck, 32, .inl u4))] := hD
  have hfin : (hf &&& 1 = 0 → tq_w u4 0 = a1 ∧ tq_w u4 4 = a2 ∧ tq_w u4 8 = a3 ∧ tq_w u4 12 = a4) ∧ (¬ hf &&& 1 = 0 → ∀ j, j < 16 → u4 j = f j) := by
    have h5 := tq_keys hw1 hw2 hw3 hw4
    rcases (show j = 0 ∨ j = 1 by omega) with rfl | rfl
    · exact ⟨fun _ => by have h6 := h5.1; simp only [Nat.zero_mul, Nat.zero_add] at h6; exact h6, fun h => absurd ej h⟩
    · exact ⟨fun h => absurd (ej.symm.trans h) (by decide +kernel), fun _ i hi => h5.2 i (by omega)⟩
  have hP9 := hP.sub (ws' := [(h0, .inr (0, [.ref qk, .ref qb, .ref qo])), (qk, .inl (ck, 32, .inl u4))]) [0, 1] rfl
  have hD9 := hD.sub (ws' := [(h0, .inr (0, [.ref qk, .ref qb, .ref qo])), (qk, .inl (ck, 32, .inl u4))]) [0, 1] (by decide) rfl
  have hK9 := hK.sub (tys' := [(ck, .byte)]) [0] rfl
  exact W.vret hx hb hr (fun t ht hW => ⟨⟨u4, rfl, hfin, by rw [ht]; exact hP9, va_K.moved hW.alike hK9, hD9⟩, hS.F ht⟩) hS.2.2 dX0_key_57
set_option maxHeartbeats 4000000 in
set_option maxRecDepth 100000 in
/-- block: both words -/
theorem metX0_block (l : Launch) (dC : Nat → ClassId) (dI : Nat → Nat → Nat) (h0 qk qb qo : Nat) (cb : ClassId) (f : Nat → Int32) (a1 a2 : Int32) (sz : Nat) : Met l yX0_block (ws_ yX0_block cX0_block 3 none) ({ frames := 1, cells := 0, slots := 0, locals := 30 }) (va_Pc [.ref h0, .int a1, .int a2] (fun U => U.heap.size = sz ∧ va_P (dC, dI) vwCl [(h0, .inr (0, [.ref qk, .ref qb, .ref qo])), (qb, .inl (cb, 8, .inl f))] U.heap ∧ va_K (dC, dI) vwCl [(cb, .byte)] U ∧ va_D (fun _ => True) [(h0, .inr (0, [.ref qk, .ref qb, .ref qo])), (qb, .inl (cb, 8, .inl f))])) (va_Qv (fun u : Nat → Int32 => tq_w u 0 = a1 ∧ tq_w u 4 = a2) (fun u t => va_P (dC, dI) vwCl [(h0, .inr (0, [.ref qk, .ref qb, .ref qo])), (qb, .inl (cb, 8, .inl u))] t.heap ∧ va_K (dC, dI) vwCl [(cb, .byte)] t ∧ va_D (va_A [(h0, .inr (0, [.ref qk, .ref qb, .ref qo])), (qb, .inl (cb, 8, .inl f))] sz) [(h0, .inr (0, [.ref qk, .ref qb, .ref qo])), (qb, .inl (cb, 8, .inl u))]) (va_A [(h0, .inr (0, [.ref qk, .ref qb, .ref qo])), (qb, .inl (cb, 8, .inl f))] sz)) 0 0 (va_A [(h0, .inr (0, [.ref qk, .ref qb, .ref qo])), (qb, .inl (cb, 8, .inl f))] sz) := by
  refine Met.ofW (cc := cX0_block) (maxL := 3) (ret := none) (by decide) rfl ?_
  intro p e s m args below meth c s₁ B hml hv
  obtain ⟨rfl, hsz, hP, hK, hD0⟩ := hv
  have hx := B.exec
  have hb := B.bytes
  have hr := B.returns
  have hts := atoms_spec (ws := ws_ yX0_block cX0_block 3 none) B.pre
  have hts : ∀ w ∈ lw_all, w.before _ s = true := fun w h => hts w (List.mem_cons_of_mem _ h)
  have hown : s.vm.findClass RX0 = some m.cls := findClass_of_methodNamed B.named
  have hlocks := B.notSynchronized
  subst hsz
  have hD := hD0.self (sz := s.heap.size)
  generalize hAe : va_A [(h0, .inr (0, [.ref qk, .ref qb, .ref qo])), (qb, .inl (cb, 8, .inl f))] s.heap.size = A at hD ⊢
  have hA : ∀ q : Nat, s.heap.size ≤ q → A q := fun q h => by rw [← hAe]; exact Or.inr h
  have hS : va_S A s.heap s.heap [] := va_S.rf
  have hl := lv_entry ([.ref h0, .int a1, .int a2]) (n := 3) (Nat.le_of_ble_eq_true rfl)
  rw [lg_entry_eq]
  generalize (lg_sl ([.ref h0, .int a1, .int a2]) ++ List.replicate (3 - (lg_sl ([.ref h0, .int a1, .int a2])).length) Slot.unset).toArray = ls at hl ⊢
  have hl : lv_has ls 3 [(0, .ref h0), (1, .int a1), (2, .int a2)] := hl
  have hP : va_P (dC, dI) vwCl [(h0, .inr (0, [.ref qk, .ref qb, .ref qo])), (qb, .inl (cb, 8, .inl f))] s.heap := hP
  refine lv_aload_n hx hb dX0_block_0 rfl (lv_at hl 0 rfl) ?_
  refine va_get (D := (dC, dI)) (ci := 0) (v := .ref qb) (C := RX0) (T := TX0) (N := 3) hx hb hts in_X0 hown hK hP 0 rfl rfl 1 (by decide) (hts _ q40) (fun _ h9 => h9) rfl dX0_block_1 ?_
  refine lv_iconst (v := 0) hx hb dX0_block_4 (by decide) ?_
  refine tk_as (nI 0) (nI_0.symm) ?_
  refine lv_iload_n hx hb dX0_block_5 rfl (lv_at hl 1 rfl) ?_
  have hPc := hP.sub (ws' := [(qb, .inl (cb, 8, .inl f))]) [1] rfl
  have hDc := hD.sub (ws' := [(qb, .inl (cb, 8, .inl f))]) [1] (by decide) rfl
  have hKc := hK.sub (tys' := [(cb, .byte)]) [0] rfl
  have hFc := va_free (wc := [(qb, .inl (cb, 8, .inl f))]) hD hS hA [1] rfl
  refine va_callv (va_runS (As := [.ref qb, .int (nI 0), .int a1]) (rest := []) ⟨hx, hb, hml, hown, hts⟩ (metX0_word l dC dI qb cb 8 f a1 0 (by omega) (by omega) s.heap.size) (va_cwS 3 hts (lw_S q54 q55 q17 q56) rfl rfl rfl (by decide +kernel) ⟨Nat.le_of_ble_eq_true rfl, Nat.le_of_ble_eq_true rfl⟩) ⟨fun a U g mk q => by obtain ⟨q0, q1, qP, qK, qD⟩ := q; exact ⟨q0, q1, qP, va_K.moved (u := U) (U := U.calling g mk a) (Vm.Alike.refl U.vm) qK, qD⟩, fun U hU hW => ⟨rfl, by rw [hU], by rw [hU]; exact hPc, va_K.moved hW.alike hKc, hDc.weaken (fun _ _ _ _ => trivial)⟩⟩ rfl rfl hl.1 rfl (lv_room (Nat.le_of_ble_eq_true rfl)) dX0_block_6 ⟨Nat.le_of_ble_eq_true rfl, Nat.le_of_ble_eq_true rfl⟩) hS (fun q _ h => hFc q h) hFc (fun u1 t H1 locs ht hvm hw1 hB hzz hk1 hS => ?_)
  obtain ⟨hP1, hK1, hD1⟩ := hB
  rw [ht] at hP1
  obtain ⟨hP, hD⟩ := va_join (wr := [(h0, .inr (0, [.ref qk, .ref qb, .ref qo]))]) (w1 := [(qb, .inl (cb, 8, .inl u1))]) hP hD [1] [0] rfl rfl (by decide) (by decide) hk1 hFc hP1 hD1
  generalize H1 = H at hP hS ⊢
  have hP : va_P (dC, dI) vwCl [(h0, .inr (0, [.ref qk, .ref qb, .ref qo])), (qb, .inl (cb, 8, .inl u1))] H := hP
  have hD : va_D A [(h0, .inr (0, [.ref qk, .ref qb, .ref qo])), (qb, .inl (cb, 8, .inl u1))] := hD
  refine lv_aload_n hx hb dX0_block_9 rfl (lv_at hl 0 rfl) ?_
  refine va_get (D := (dC, dI)) (ci := 0) (v := .ref qb) (C := RX0) (T := TX0) (N := 3) hx hb hts in_X0 hown hK hP 0 rfl rfl 1 (by decide) (hts _ q40) (fun _ h9 => h9) rfl dX0_block_10 ?_
  refine lv_iconst (v := 4) hx hb dX0_block_13 (by decide) ?_
  refine tk_as (nI 4) (rfl) ?_
  refine lv_iload_n hx hb dX0_block_14 rfl (lv_at hl 2 rfl) ?_
  have hPc := hP.sub (ws' := [(qb, .inl (cb, 8, .inl u1))]) [1] rfl
  have hDc := hD.sub (ws' := [(qb, .inl (cb, 8, .inl u1))]) [1] (by decide) rfl
  have hKc := hK.sub (tys' := [(cb, .byte)]) [0] rfl
  have hFc := va_free (wc := [(qb, .inl (cb, 8, .inl u1))]) hD hS hA [1] rfl
  refine va_callv (va_runS (As := [.ref qb, .int (nI 4), .int a2]) (rest := []) ⟨hx, hb, hml, hown, hts⟩ (metX0_word l dC dI qb cb 8 u1 a2 4 (by omega) (by omega) H.size) (va_cwS 3 hts (lw_S q54 q55 q17 q56) rfl rfl rfl (by decide +kernel) ⟨Nat.le_of_ble_eq_true rfl, Nat.le_of_ble_eq_true rfl⟩) ⟨fun a U g mk q => by obtain ⟨q0, q1, qP, qK, qD⟩ := q; exact ⟨q0, q1, qP, va_K.moved (u := U) (U := U.calling g mk a) (Vm.Alike.refl U.vm) qK, qD⟩, fun U hU hW => ⟨rfl, by rw [hU], by rw [hU]; exact hPc, va_K.moved hW.alike hKc, hDc.weaken (fun _ _ _ _ => trivial)⟩⟩ rfl rfl hl.1 rfl (lv_room (Nat.le_of_ble_eq_true rfl)) dX0_block_15 ⟨Nat.le_of_ble_eq_true rfl, Nat.le_of_ble_eq_true rfl⟩) hS (fun q _ h => hFc q h) hFc (fun u2 t H1 locs ht hvm hw2 hB hzz hk1 hS => ?_)
  obtain ⟨hP1, hK1, hD1⟩ := hB
  rw [ht] at hP1
  obtain ⟨hP, hD⟩ := va_join (wr := [(h0, .inr (0, [.ref qk, .ref qb, .ref qo]))]) (w1 := [(qb, .inl (cb, 8, .inl u2))]) hP hD [1] [0] rfl rfl (by decide) (by decide) hk1 hFc hP1 hD1
  generalize H1 = H at hP hS ⊢
  have hP : va_P (dC, dI) vwCl [(h0, .inr (0, [.ref qk, .ref qb, .ref qo])), (qb, .inl (cb, 8, .inl u2))] H := hP
  have hD : va_D A [(h0, .inr (0, [.ref qk, .ref qb, .ref qo])), (qb, .inl (cb, 8, .inl u2))] := hD
  have hP9 := hP.sub (ws' := [(h0, .inr (0, [.ref qk, .ref qb, .ref qo])), (qb, .inl (cb, 8, .inl u2))]) [0, 1] rfl
  have hD9 := hD.sub (ws' := [(h0, .inr (0, [.ref qk, .ref qb, .ref qo])), (qb, .inl (cb, 8, .inl u2))]) [0, 1] (by decide) rfl
  have hK9 := hK.sub (tys' := [(cb, .byte)]) [0] rfl
  exact W.vret hx hb hr (fun t ht hW => ⟨⟨u2, rfl, ⟨(tq_eq (fun j _ hj => hw2.2 j (Or.inl (by omega)))).trans hw1.1, hw2.1⟩, by rw [ht]; exact hP9, va_K.moved hW.alike hK9, hD9⟩, hS.F ht⟩) hS.2.2 dX0_block_18
set_option maxHeartbeats 4000000 in
set_option maxRecDepth 100000 in
/-- the key's first bytes: n are left -/
theorem lpX0_copy {p : Program} {l : Launch} {e : Env} {R : Room} {s : State} {m : MethodId} {args : Array Value} {below : List Frame} {meth : Method} {c : Code} {cells slots : Nat} {Q : State → Prop} {dC : Nat → ClassId} {dI : Nat → Nat → Nat} {A : Nat → Prop} {H0 : Heap} {h0 qk qb qo qn : Nat} {ck cb co cn : ClassId} {fk fb fo : Nat → Int32} {lk kd : Int32} (hx : p.tables.exec = Jvm.exec) (hb : c.code = cX0_run) (hown : s.vm.findClass RX0 = some m.cls) (hts : ∀ w ∈ lw_all, w.before args s = true) (hK : va_K (dC, dI) vwCl [(ck, .byte), (cb, .byte), (co, .byte), (cn, .byte)] s)
    (kk : ∀ (g : Nat → Int32) (H : Heap) (locs : List Loc), (∀ j, j < 16 → g j = vp_nar .byte (fk j)) → va_P (dC, dI) vwCl [(h0, .inr (0, [.ref qk, .ref qb, .ref qo])), (qk, .inl (ck, 32, .inl fk)), (qb, .inl (cb, 8, .inl fb)), (qo, .inl (co, 8, .inl fo)), (qn, .inl (cn, 16, .inl g))] H → va_D A [(h0, .inr (0, [.ref qk, .ref qb, .ref qo])), (qk, .inl (ck, 32, .inl fk)), (qb, .inl (cb, 8, .inl fb)), (qo, .inl (co, 8, .inl fo)), (qn, .inl (cn, 16, .inl g))] → va_S A H0 H locs → ∀ ls : Array Slot, lv_has ls 6 [(0, .ref h0), (1, .int lk), (2, .int kd), (4, .ref qn)] → W p l e R s m args below meth c H locs cells slots Q (F0 m 40 ls [])) :
    ∀ (n i : Nat) (g : Nat → Int32) (H : Heap) (locs : List Loc), i + n = 16 → (∀ j, j < i → g j = vp_nar .byte (fk j)) → va_P (dC, dI) vwCl [(h0, .inr (0, [.ref qk, .ref qb, .ref qo])), (qk, .inl (ck, 32, .inl fk)), (qb, .inl (cb, 8, .inl fb)), (qo, .inl (co, 8, .inl fo)), (qn, .inl (cn, 16, .inl g))] H → va_D A [(h0, .inr (0, [.ref qk, .ref qb, .ref qo])), (qk, .inl (ck, 32, .inl fk)), (qb, .inl (cb, 8, .inl fb)), (qo, .inl (co, 8, .inl fo)), (qn, .inl (cn, 16, .inl g))] → va_S A H0 H locs → ∀ ls : Array Slot, lv_has ls 6 [(0, .ref h0), (1, .int lk), (2, .int kd), (3, .int 16), (4, .ref qn), (5, .int (nI i))] → W p l e R s m args below meth c H locs cells slots Q (F0 m 16 ls []) := by
  intro n
  induction n with
  | zero =>
    intro i g H locs hi hv hP hD hS ls hl
    obtain rfl : i = 16 := by omega
    refine lv_iload hx hb dX0_run_16 (lv_at hl 5 rfl) ?_
    refine lv_iload_n hx hb dX0_run_18 rfl (lv_at hl 3 rfl) ?_
    exact lv_icmp_ge (tgt := 40) hx hb dX0_run_19 (by decide) (fun _ => kk g H locs hv hP hD hS ls (lv_sub hl [0, 1, 2, 4] rfl)) (fun h9 => absurd (by decide +kernel) h9)
  | succ n ih =>
    intro i g H locs hi hv hP hD hS ls hl
    refine lv_iload hx hb dX0_run_16 (lv_at hl 5 rfl) ?_
    refine lv_iload_n hx hb dX0_run_18 rfl (lv_at hl 3 rfl) ?_
    refine lv_icmp_ge (tgt := 40) hx hb dX0_run_19 (by decide) (fun h9 => absurd h9 (nI_ge (a := i) (b := 16) (by omega) (by omega))) (fun _ => ?_)
    refine lv_aload hx hb dX0_run_22 (lv_at hl 4 rfl) ?_
    refine lv_iload hx hb dX0_run_24 (lv_at hl 5 rfl) ?_
    refine lv_aload_n hx hb dX0_run_26 rfl (lv_at hl 0 rfl) ?_
    refine va_get (D := (dC, dI)) (ci := 0) (v := .ref qk) (C := RX0) (T := TX0) (N := 3) hx hb hts in_X0 hown hK hP 0 rfl rfl 0 (by decide) (hts _ q39) (fun _ h9 => h9) rfl dX0_run_27 ?_
    refine lv_iload hx hb dX0_run_30 (lv_at hl 5 rfl) ?_
    refine tk_bld hx hb hK hP 1 0 rfl rfl (i) (by omega) (by omega) dX0_run_32 ?_
    refine tk_bst (x := (fk i)) hx hb hK hP hD hS 4 3 rfl rfl (i) (by omega) (by omega) dX0_run_33 (fun H locs hP hD hS => ?_)
    have hP : va_P (dC, dI) vwCl [(h0, .inr (0, [.ref qk, .ref qb, .ref qo])), (qk, .inl (ck, 32, .inl fk)), (qb, .inl (cb, 8, .inl fb)), (qo, .inl (co, 8, .inl fo)), (qn, .inl (cn, 16, .inl (upd g i (vp_nar .byte (fk i)))))] H := hP
    have hD : va_D A [(h0, .inr (0, [.ref qk, .ref qb, .ref qo])), (qk, .inl (ck, 32, .inl fk)), (qb, .inl (cb, 8, .inl fb)), (qo, .inl (co, 8, .inl fo)), (qn, .inl (cn, 16, .inl (upd g i (vp_nar .byte (fk i)))))] := hD
    obtain ⟨g1, eg1⟩ : ∃ g_9 : Nat → Int32, g_9 = upd g i (vp_nar .byte (fk i)) := ⟨_, rfl⟩
    rw [← eg1] at hP hD
    refine lv_iinc (v := nI (i + 1)) (lv' := [(5, .int (nI (i + 1))), (0, .ref h0), (1, .int lk), (2, .int kd), (3, .int 16), (4, .ref qn)]) hx hb dX0_run_34 hl (k := 5) rfl (tk_inc i) (by decide) rfl (fun ls hl => ?_)
    refine lv_goto (tgt := 16) hx hb dX0_run_37 (by decide) ?_
    refine ih (i + 1) g1 H locs (by omega) (fun j hj => ?_) hP hD hS ls (lv_sub hl [1, 2, 3, 4, 5, 0] rfl)
    rw [eg1]
    rcases Nat.lt_or_ge j i with h9 | h9
    · rw [tq_un _ _ (by omega)]; exact hv j h9
    · obtain rfl : j = i := by omega
      rw [tq_up]
set_option maxHeartbeats 4000000 in
set_option maxRecDepth 100000 in
/-- the block's bytes: n are left -/
theorem lpX0_again {p : Program} {l : Launch} {e : Env} {R : Room} {s : State} {m : MethodId} {args : Array Value} {below : List Frame} {meth : Method} {c : Code} {cells slots : Nat} {Q : State → Prop} {dC : Nat → ClassId} {dI : Nat → Nat → Nat} {A : Nat → Prop} {H0 : Heap} {h0 qk qb qo : Nat} {cb co : ClassId} {fo : Nat → Int32} (hx : p.tables.exec = Jvm.exec) (hb : c.code = cX0_again) (hown : s.vm.findClass RX0 = some m.cls) (hts : ∀ w ∈ lw_all, w.before args s = true) (hK : va_K (dC, dI) vwCl [(cb, .byte), (co, .byte)] s)
    (kk : ∀ (g : Nat → Int32) (H : Heap) (locs : List Loc), (∀ j, j < 8 → g j = vp_nar .byte (fo j)) → va_P (dC, dI) vwCl [(h0, .inr (0, [.ref qk, .ref qb, .ref qo])), (qb, .inl (cb, 8, .inl g)), (qo, .inl (co, 8, .inl fo))] H → va_D A [(h0, .inr (0, [.ref qk, .ref qb, .ref qo])), (qb, .inl (cb, 8, .inl g)), (qo, .inl (co, 8, .inl fo))] → va_S A H0 H locs → ∀ ls : Array Slot, W p l e R s m args below meth c H locs cells slots Q (F0 m 26 ls [])) :
    ∀ (n i : Nat) (g : Nat → Int32) (H : Heap) (locs : List Loc), i + n = 8 → (∀ j, j < i → g j = vp_nar .byte (fo j)) → va_P (dC, dI) vwCl [(h0, .inr (0, [.ref qk, .ref qb, .ref qo])), (qb, .inl (cb, 8, .inl g)), (qo, .inl (co, 8, .inl fo))] H → va_D A [(h0, .inr (0, [.ref qk, .ref qb, .ref qo])), (qb, .inl (cb, 8, .inl g)), (qo, .inl (co, 8, .inl fo))] → va_S A H0 H locs → ∀ ls : Array Slot, lv_has ls 2 [(0, .ref h0), (1, .int (nI i))] → W p l e R s m args below meth c H locs cells slots Q (F0 m 2 ls []) := by
  intro n
  induction n with
  | zero =>
    intro i g H locs hi hv hP hD hS ls hl
    obtain rfl : i = 8 := by omega
    refine lv_iload_n hx hb dX0_again_2 rfl (lv_at hl 1 rfl) ?_
    refine lv_bipush (v := 8) hx hb dX0_again_3 (by decide) ?_
    exact lv_icmp_ge (tgt := 26) hx hb dX0_again_5 (by decide) (fun _ => kk g H locs hv hP hD hS ls) (fun h9 => absurd (by decide +kernel) h9)
  | succ n ih =>
    intro i g H locs hi hv hP hD hS ls hl
    refine lv_iload_n hx hb dX0_again_2 rfl (lv_at hl 1 rfl) ?_
    refine lv_bipush (v := 8) hx hb dX0_again_3 (by decide) ?_
    refine lv_icmp_ge (tgt := 26) hx hb dX0_again_5 (by decide) (fun h9 => absurd h9 (nI_ge (a := i) (b := 8) (by omega) (by omega))) (fun _ => ?_)
    refine lv_aload_n hx hb dX0_again_8 rfl (lv_at hl 0 rfl) ?_
    refine va_get (D := (dC, dI)) (ci := 0) (v := .ref qb) (C := RX0) (T := TX0) (N := 3) hx hb hts in_X0 hown hK hP 0 rfl rfl 1 (by decide) (hts _ q40) (fun _ h9 => h9) rfl dX0_again_9 ?_
    refine lv_iload_n hx hb dX0_again_12 rfl (lv_at hl 1 rfl) ?_
    refine lv_aload_n hx hb dX0_again_13 rfl (lv_at hl 0 rfl) ?_
    refine va_get (D := (dC, dI)) (ci := 0) (v := .ref qo) (C := RX0) (T := TX0) (N := 3) hx hb hts in_X0 hown hK hP 0 rfl rfl 2 (by decide) (hts _ q41) (fun _ h9 => h9) rfl dX0_again_14 ?_
    refine lv_iload_n hx hb dX0_again_17 rfl (lv_at hl 1 rfl) ?_
    refine tk_bld hx hb hK hP 2 1 rfl rfl (i) (by omega) (by omega) dX0_again_18 ?_
    refine tk_bst (x := (fo i)) hx hb hK hP hD hS 1 0 rfl rfl (i) (by omega) (by omega) dX0_again_19 (fun H locs hP hD hS => ?_)
    have hP : va_P (dC, dI) vwCl [(h0, .inr (0, [.ref qk, .ref qb, .ref qo])), (qb, .inl (cb, 8, .inl (upd g i (vp_nar .byte (fo i))))), (qo, .inl (co, 8, .inl fo))] H := hP
    have hD : va_D A [(h0, .inr (0, [.ref qk, .ref qb, .ref qo])), (qb, .inl (cb, 8, .inl (upd g i (vp_nar .byte (fo i))))), (qo, .inl (co, 8, .inl fo))] := hD
    obtain ⟨g1, eg1⟩ : ∃ g_9 : Nat → Int32, g_9 = upd g i (vp_nar .byte (fo i)) := ⟨_, rfl⟩
    rw [← eg1] at hP hD
    refine lv_iinc (v := nI (i + 1)) (lv' := [(1, .int (nI (i + 1))), (0, .ref h0)]) hx hb dX0_again_20 hl (k := 1) rfl (tk_inc i) (by decide) rfl (fun ls hl => ?_)
    refine lv_goto (tgt := 2) hx hb dX0_again_23 (by decide) ?_
    refine ih (i + 1) g1 H locs (by omega) (fun j hj => ?_) hP hD hS ls (lv_sub hl [1, 0] rfl)
    rw [eg1]
    rcases Nat.lt_or_ge j i with h9 | h9
    · rw [tq_un _ _ (by omega)]; exact hv j h9
    · obtain rfl : j = i := by omega
      rw [tq_up]
set_option maxHeartbeats 4000000 in
set_option maxRecDepth 100000 in
/-- again: the answer is the next block -/
theorem metX0_again (l : Launch) (dC : Nat → ClassId) (dI : Nat → Nat → Nat) (h0 qk qb qo : Nat) (cb co : ClassId) (fb fo : Nat → Int32) (sz : Nat) : Met l yX0_again (ws_ yX0_again cX0_again 2 none) ({ frames := 0, cells := 0, slots := 0, locals := 0 }) (va_Pc [.ref h0] (fun U => U.heap.size = sz ∧ va_P (dC, dI) vwCl [(h0, .inr (0, [.ref qk, .ref qb, .ref qo])), (qb, .inl (cb, 8, .inl fb)), (qo, .inl (co, 8, .inl fo))] U.heap ∧ va_K (dC, dI) vwCl [(cb, .byte), (co, .byte)] U ∧ va_D (fun _ => True) [(h0, .inr (0, [.ref qk, .ref qb, .ref qo])), (qb, .inl (cb, 8, .inl fb)), (qo, .inl (co, 8, .inl fo))])) (va_Qv (fun u : Nat → Int32 => tq_w u 0 = tq_w fo 0 ∧ tq_w u 4 = tq_w fo 4) (fun u t => va_P (dC, dI) vwCl [(h0, .inr (0, [.ref qk, .ref qb, .ref qo])), (qb, .inl (cb, 8, .inl u)), (qo, .inl (co, 8, .inl fo))] t.heap ∧ va_K (dC, dI) vwCl [(cb, .byte), (co, .byte)] t ∧ va_D (va_A [(h0, .inr (0, [.ref qk, .ref qb, .ref qo])), (qb, .inl (cb, 8, .inl fb)), (qo, .inl (co, 8, .inl fo))] sz) [(h0, .inr (0, [.ref qk, .ref qb, .ref qo])), (qb, .inl (cb, 8, .inl u)), (qo, .inl (co, 8, .inl fo))]) (va_A [(h0, .inr (0, [.ref qk, .ref qb, .ref qo])), (qb, .inl (cb, 8, .inl fb)), (qo, .inl (co, 8, .inl fo))] sz)) 0 0 (va_A [(h0, .inr (0, [.ref qk, .ref qb, .ref qo])), (qb, .inl (cb, 8, .inl fb)), (qo, .inl (co, 8, .inl fo))] sz) := by
  refine Met.ofW (cc := cX0_again) (maxL := 2) (ret := none) (by decide) rfl ?_
  intro p e s m args below meth c s₁ B hml hv
  obtain ⟨rfl, hsz, hP, hK, hD0⟩ := hv
  have hx := B.exec
  have hb := B.bytes
  have hr := B.returns
  have hts := atoms_spec (ws := ws_ yX0_again cX0_again 2 none) B.pre
  have hts : ∀ w ∈ lw_all, w.before _ s = true := fun w h => hts w (List.mem_cons_of_mem _ h)
  have hown : s.vm.findClass RX0 = some m.cls := findClass_of_methodNamed B.named
  have hlocks := B.notSynchronized
  subst hsz
  have hD := hD0.self (sz := s.heap.size)
  generalize hAe : va_A [(h0, .inr (0, [.ref qk, .ref qb, .ref qo])), (qb, .inl (cb, 8, .inl fb)), (qo, .inl (co, 8, .inl fo))] s.heap.size = A at hD ⊢
  have hA : ∀ q : Nat, s.heap.size ≤ q → A q := fun q h => by rw [← hAe]; exact Or.inr h
  have hS : va_S A s.heap s.heap [] := va_S.rf
  have hl := lv_entry ([.ref h0]) (n := 2) (Nat.le_of_ble_eq_true rfl)
  rw [lg_entry_eq]
  generalize (lg_sl ([.ref h0]) ++ List.replicate (2 - (lg_sl ([.ref h0])).length) Slot.unset).toArray = ls at hl ⊢
  have hl : lv_has ls 2 [(0, .ref h0)] := hl
  have hP : va_P (dC, dI) vwCl [(h0, .inr (0, [.ref qk, .ref qb, .ref qo])), (qb, .inl (cb, 8, .inl fb)), (qo, .inl (co, 8, .inl fo))] s.heap := hP
  refine lv_iconst (v := 0) hx hb dX0_again_0 (by decide) ?_
  refine tk_as (nI 0) (nI_0.symm) ?_
  refine lv_istore_n (lv' := [(1, .int (nI 0)), (0, .ref h0)]) hx hb dX0_again_1 rfl hl (by decide) rfl (fun ls hl => ?_)
  refine lpX0_again hx hb hown hts hK (fun g H locs hv hP hD hS ls => ?_) 8 0 fb s.heap [] rfl (fun j hj => absurd hj (by omega)) hP hD hS ls (lv_sub hl [1, 0] rfl)
  have hP9 := hP.sub (ws' := [(h0, .inr (0, [.ref qk, .ref qb, .ref qo])), (qb, .inl (cb, 8, .inl g)), (qo, .inl (co, 8, .inl fo))]) [0, 1, 2] rfl
  have hD9 := hD.sub (ws' := [(h0, .inr (0, [.ref qk, .ref qb, .ref qo])), (qb, .inl (cb, 8, .inl g)), (qo, .inl (co, 8, .inl fo))]) [0, 1, 2] (by decide) rfl
  have hK9 := hK.sub (tys' := [(cb, .byte), (co, .byte)]) [0, 1] rfl
  exact W.vret hx hb hr (fun t ht hW => ⟨⟨g, rfl, tq_copy8 hv, by rw [ht]; exact hP9, va_K.moved hW.alike hK9, hD9⟩, hS.F ht⟩) hS.2.2 dX0_again_26
set_option maxHeartbeats 4000000 in
set_option maxRecDepth 100000 in
/-- out: one byte -/
theorem metX0_out (l : Launch) (dC : Nat → ClassId) (dI : Nat → Nat → Nat) (h0 qk qb qo : Nat) (co : ClassId) (fo : Nat → Int32) (pl : Int32) : Met l yX0_out (ws_ yX0_out cX0_out 2 (some .int)) ({ frames := 0, cells := 0, slots := 0, locals := 0 }) (va_Pc [.ref h0, .int pl] (fun U => va_P (dC, dI) vwCl [(h0, .inr (0, [.ref qk, .ref qb, .ref qo])), (qo, .inl (co, 8, .inl fo))] U.heap ∧ va_K (dC, dI) vwCl [(co, .byte)] U)) (vp_Si (fun r => r = fo (pl &&& 7).toNatClampNeg &&& 255)) 0 0 (fun _ => False) := by
  refine Met.ofW (cc := cX0_out) (maxL := 2) (ret := (some .int)) (by decide) rfl ?_
  intro p e s m args below meth c s₁ B hml hv
  obtain ⟨rfl, hP, hK⟩ := hv
  have hx := B.exec
  have hb := B.bytes
  have hr := B.returns
  have hts := atoms_spec (ws := ws_ yX0_out cX0_out 2 (some .int)) B.pre
  have hts : ∀ w ∈ lw_all, w.before _ s = true := fun w h => hts w (List.mem_cons_of_mem _ h)
  have hown : s.vm.findClass RX0 = some m.cls := findClass_of_methodNamed B.named
  have hlocks := B.notSynchronized
  have hl := lv_entry ([.ref h0, .int pl]) (n := 2) (Nat.le_of_ble_eq_true rfl)
  rw [lg_entry_eq]
  generalize (lg_sl ([.ref h0, .int pl]) ++ List.replicate (2 - (lg_sl ([.ref h0, .int pl])).length) Slot.unset).toArray = ls at hl ⊢
  have hl : lv_has ls 2 [(0, .ref h0), (1, .int pl)] := hl
  refine lv_aload_n hx hb dX0_out_0 rfl (lv_at hl 0 rfl) ?_
  refine va_get (D := (dC, dI)) (ci := 0) (v := .ref qo) (C := RX0) (T := TX0) (N := 3) hx hb hts in_X0 hown hK hP 0 rfl rfl 2 (by decide) (hts _ q41) (fun _ h9 => h9) rfl dX0_out_1 ?_
  refine lv_iload_n hx hb dX0_out_4 rfl (lv_at hl 1 rfl) ?_
  refine lv_bipush (v := 7) hx hb dX0_out_5 (by decide) ?_
  refine lv_iand hx hb dX0_out_7 ?_
  refine va_bald hx hb hK hP 1 0 rfl rfl (pk_andIn pl (m := 7) 3 (by decide) (by omega)) dX0_out_8 ?_
  refine lv_sipush (v := 255) hx hb dX0_out_9 (by decide) ?_
  refine lv_iand hx hb dX0_out_12 ?_
  exact W.iret hx hb hr (fun t ht hW => ⟨_, rfl, rfl, ht⟩) tk_nil dX0_out_13
set_option maxHeartbeats 4000000 in
set_option maxRecDepth 100000 in
/-- run: a fresh engine, the key, one block -/
theorem metX0_run (l : Launch) (dC : Nat → ClassId) (dI : Nat → Nat → Nat) (h0 qk qb qo : Nat) (ck cb co : ClassId) (fk fb fo : Nat → Int32) (lk kd : Int32) (hlk : lk = 0 ∨ lk = 1) (sz : Nat) : Met l yX0_run (ws_ yX0_run cX0_run 6 none) ({ frames := 4, cells := 7, slots := 106, locals := 100 }) (va_Pc [.ref h0, .int lk, .int kd] (fun U => U.heap.size = sz ∧ va_P (dC, dI) vwCl [(h0, .inr (0, [.ref qk, .ref qb, .ref qo])), (qk, .inl (ck, 32, .inl fk)), (qb, .inl (cb, 8, .inl fb)), (qo, .inl (co, 8, .inl fo))] U.heap ∧ va_K (dC, dI) vwCl [(ck, .byte), (cb, .byte), (co, .byte)] U ∧ va_D (fun _ => True) [(h0, .inr (0, [.ref qk, .ref qb, .ref qo])), (qk, .inl (ck, 32, .inl fk)), (qb, .inl (cb, 8, .inl fb)), (qo, .inl (co, 8, .inl fo))] ∧ tk_FF U)) (va_Qv (fun u : Nat → Int32 => (tq_w u 0, tq_w u 4) = tq_C lk kd (fun j => tq_w fk (4 * j)) (tq_w fb 0) (tq_w fb 4)) (fun u t => va_P (dC, dI) vwCl [(h0, .inr (0, [.ref qk, .ref qb, .ref qo])), (qk, .inl (ck, 32, .inl fk)), (qb, .inl (cb, 8, .inl fb)), (qo, .inl (co, 8, .inl u))] t.heap ∧ va_K (dC, dI) vwCl [(ck, .byte), (cb, .byte), (co, .byte)] t ∧ va_D (va_A [(h0, .inr (0, [.ref qk, .ref qb, .ref qo])), (qk, .inl (ck, 32, .inl fk)), (qb, .inl (cb, 8, .inl fb)), (qo, .inl (co, 8, .inl fo))] sz) [(h0, .inr (0, [.ref qk, .ref qb, .ref qo])), (qk, .inl (ck, 32, .inl fk)), (qb, .inl (cb, 8, .inl fb)), (qo, .inl (co, 8, .inl u))]) (va_A [(h0, .inr (0, [.ref qk, .ref qb, .ref qo])), (qk, .inl (ck, 32, .inl fk)), (qb, .inl (cb, 8, .inl fb)), (qo, .inl (co, 8, .inl fo))] sz)) 7 106 (va_A [(h0, .inr (0, [.ref qk, .ref qb, .ref qo])), (qk, .inl (ck, 32, .inl fk)), (qb, .inl (cb, 8, .inl fb)), (qo, .inl (co, 8, .inl fo))] sz) := by
  refine Met.ofW (cc := cX0_run) (maxL := 6) (ret := none) (by decide) rfl ?_
  intro p e s m args below meth c s₁ B hml hv
  obtain ⟨rfl, hsz, hP, hK, hD0, hF⟩ := hv
  have hx := B.exec
  have hb := B.bytes
  have hr := B.returns
  have hts := atoms_spec (ws := ws_ yX0_run cX0_run 6 none) B.pre
  have hts : ∀ w ∈ lw_all, w.before _ s = true := fun w h => hts w (List.mem_cons_of_mem _ h)
  have hown : s.vm.findClass RX0 = some m.cls := findClass_of_methodNamed B.named
  have hlocks := B.notSynchronized
  subst hsz
  have hD := hD0.self (sz := s.heap.size)
  generalize hAe : va_A [(h0, .inr (0, [.ref qk, .ref qb, .ref qo])), (qk, .inl (ck, 32, .inl fk)), (qb, .inl (cb, 8, .inl fb)), (qo, .inl (co, 8, .inl fo))] s.heap.size = A at hD ⊢
  have hA : ∀ q : Nat, s.heap.size ≤ q → A q := fun q h => by rw [← hAe]; exact Or.inr h
  have hS : va_S A s.heap s.heap [] := va_S.rf
  have hl := lv_entry ([.ref h0, .int lk, .int kd]) (n := 6) (Nat.le_of_ble_eq_true rfl)
  rw [lg_entry_eq]
  generalize (lg_sl ([.ref h0, .int lk, .int kd]) ++ List.replicate (6 - (lg_sl ([.ref h0, .int lk, .int kd])).length) Slot.unset).toArray = ls at hl ⊢
  have hl : lv_has ls 6 [(0, .ref h0), (1, .int lk), (2, .int kd)] := hl
  have hP : va_P (dC, dI) vwCl [(h0, .inr (0, [.ref qk, .ref qb, .ref qo])), (qk, .inl (ck, 32, .inl fk)), (qb, .inl (cb, 8, .inl fb)), (qo, .inl (co, 8, .inl fo))] s.heap := hP
  refine lv_iload_n hx hb dX0_run_0 rfl (lv_at hl 2 rfl) ?_
  refine lv_bipush (v := 7) hx hb dX0_run_1 (by decide) ?_
  refine lv_iand hx hb dX0_run_3 ?_
  refine vp_callSi (W.runS (As := [.int (kd &&& 7)]) (rest := []) ⟨hx, hb, hml, hown, hts⟩ (metX0_size l dC dI (kd &&& 7)) (va_cwS 1 hts (lw_S q69 q70 q17 q71) rfl rfl rfl (by decide +kernel) ⟨Nat.le_of_ble_eq_true rfl, Nat.le_of_ble_eq_true rfl⟩) ⟨fun a U g mk q => q, fun U hU hW => ⟨rfl, trivial⟩⟩ rfl rfl hl.1 rfl (lv_room (Nat.le_of_ble_eq_true rfl)) dX0_run_4 ⟨Nat.le_of_ble_eq_true rfl, Nat.le_of_ble_eq_true rfl⟩) (fun z hz => ?_)
  subst hz
  refine lv_istore_n (lv' := [(3, .int 16), (0, .ref h0), (1, .int lk), (2, .int kd)]) hx hb dX0_run_7 rfl hl (by decide) rfl (fun ls hl => ?_)
  refine lv_iload_n hx hb dX0_run_8 rfl (lv_at hl 0 rfl) ?_
  refine va_newa (atype := .byte) (ty := .byte) (N' := 16) (a0 := (16, .inl (fun _ => 0))) hx hb (hts _ q49) rfl hK hP hD hS hA (fun _ => rfl) (by decide) (by decide) (Nat.le_of_ble_eq_true rfl) (Nat.le_of_ble_eq_true rfl) (Nat.le_of_ble_eq_true rfl) dX0_run_9 (fun qn cn H hK hP hD hS => ?_)
  have hP : va_P (dC, dI) vwCl [(h0, .inr (0, [.ref qk, .ref qb, .ref qo])), (qk, .inl (ck, 32, .inl fk)), (qb, .inl (cb, 8, .inl fb)), (qo, .inl (co, 8, .inl fo)), (qn, .inl (cn, 16, .inl (fun _ => 0)))] H := hP
  have hD : va_D A [(h0, .inr (0, [.ref qk, .ref qb, .ref qo])), (qk, .inl (ck, 32, .inl fk)), (qb, .inl (cb, 8, .inl fb)), (qo, .inl (co, 8, .inl fo)), (qn, .inl (cn, 16, .inl (fun _ => 0)))] := hD
  have hK : va_K (dC, dI) vwCl [(ck, .byte), (cb, .byte), (co, .byte), (cn, .byte)] s := hK
  refine lv_astore (lv' := [(4, .ref qn), (3, .int 16), (0, .ref h0), (1, .int lk), (2, .int kd)]) hx hb dX0_run_11 hl (by decide) rfl (fun ls hl => ?_)
  refine lv_iconst (v := 0) hx hb dX0_run_13 (by decide) ?_
  refine tk_as (nI 0) (nI_0.symm) ?_
  refine lv_istore (lv' := [(5, .int (nI 0)), (4, .ref qn), (3, .int 16), (0, .ref h0), (1, .int lk), (2, .int kd)]) hx hb dX0_run_14 hl (by decide) rfl (fun ls hl => ?_)
  refine lpX0_copy hx hb hown hts hK (fun g H locs hg hP hD hS ls hl => ?_) 16 0 (fun _ => 0) H [] rfl (fun j hj => absurd hj (by omega)) hP hD hS ls (lv_sub hl [3, 4, 5, 2, 1, 0] rfl)
  have hfit : ∀ j, j < 16 → fits .byte (.int (g j)) = true := fun j hj => by rw [hg j hj, vp_nar_byte]; exact pk_fb _
  refine lv_iload_n hx hb dX0_run_40 rfl (lv_at hl 2 rfl) ?_
  refine lv_iconst (v := 4) hx hb dX0_run_41 (by decide) ?_
  refine lv_iand hx hb dX0_run_42 ?_
  refine lv_if_ne (tgt := 56) hx hb dX0_run_43 (by decide) (fun h9 => ?_) (fun h9 => ?_)
  · refine va_new (ci := 3) (fs := [.null, .null, .null, .int 0, .int 0]) (C := RX3) (T := TX3) (N := 5) hx hb hts in_X3 tyX3 tyX3_ok hown (hts _ q97) (hts _ q98) (hts _ q20) hK hP hD hS hA rfl (fun j hj => by rcases (show j = 0 ∨ j = 1 ∨ j = 2 ∨ j = 3 ∨ j = 4 by omega) with rfl | rfl | rfl | rfl | rfl <;> rfl) (Nat.le_of_ble_eq_true rfl) (Nat.le_of_ble_eq_true rfl) dX0_run_56 (fun qe H hP hD hS => ?_)
    have hP : va_P (dC, dI) vwCl [(h0, .inr (0, [.ref qk, .ref qb, .ref qo])), (qk, .inl (ck, 32, .inl fk)), (qb, .inl (cb, 8, .inl fb)), (qo, .inl (co, 8, .inl fo)), (qn, .inl (cn, 16, .inl g)), (qe, .inr (3, [.null, .null, .null, .int 0, .int 0]))] H := hP
    have hD : va_D A [(h0, .inr (0, [.ref qk, .ref qb, .ref qo])), (qk, .inl (ck, 32, .inl fk)), (qb, .inl (cb, 8, .inl fb)), (qo, .inl (co, 8, .inl fo)), (qn, .inl (cn, 16, .inl g)), (qe, .inr (3, [.null, .null, .null, .int 0, .int 0]))] := hD
    refine lv_dup hx hb dX0_run_59 rfl ?_
    have hPc := hP.sub (ws' := [(qe, .inr (3, [.null, .null, .null, .int 0, .int 0]))]) [5] rfl
    have hDc := hD.sub (ws' := [(qe, .inr (3, [.null, .null, .null, .int 0, .int 0]))]) [5] (by decide) rfl
    have hKc := hK.sub (tys' := []) [] rfl
    have hFc := va_free (wc := [(qe, .inr (3, [.null, .null, .null, .int 0, .int 0]))]) hD hS hA [5] rfl
    refine va_callv (va_runI (As := []) (rest := [.ref qe]) ⟨hx, hb, hml, hown, hts⟩ (metX3_init l dC dI qe H.size) (cwI 0 hts (lw_meth q101) rfl rfl rfl (hts _ q20) (hts _ q99) (hts _ q100) rfl (by decide +kernel) ⟨Nat.le_of_ble_eq_true rfl, Nat.le_of_ble_eq_true rfl⟩) ⟨fun a U g mk q => by obtain ⟨q0, q1, qP, qK, qD⟩ := q; exact ⟨q0, q1, qP, va_K.moved (u := U) (U := U.calling g mk a) (Vm.Alike.refl U.vm) qK, qD⟩, fun U hU hW => ⟨rfl, by rw [hU], by rw [hU]; exact hPc, va_K.moved hW.alike hKc, hDc.weaken (fun _ _ _ _ => trivial)⟩⟩ rfl rfl hl.1 rfl (lv_room (Nat.le_of_ble_eq_true rfl)) dX0_run_60 ⟨Nat.le_of_ble_eq_true rfl, Nat.le_of_ble_eq_true rfl⟩) hS (fun q _ h => hFc q h) hFc (fun _u t H1 locs ht hvm _hw hB hzz hk1 hS => ?_)
    obtain ⟨qS, qA, qB, cS, cA, cD, hP1, hK1, hD1⟩ := hB
    rw [ht] at hP1
    obtain ⟨hP, hD⟩ := va_join (wr := [(h0, .inr (0, [.ref qk, .ref qb, .ref qo])), (qk, .inl (ck, 32, .inl fk)), (qb, .inl (cb, 8, .inl fb)), (qo, .inl (co, 8, .inl fo)), (qn, .inl (cn, 16, .inl g))]) (w1 := [(qe, .inr (3, [.ref qS, .ref qA, .ref qB, .int 0, .int 0])), (qS, .inl (cS, 4, .inl (fun _ => 0))), (qA, .inl (cA, 32, .inl (fun _ => 0))), (qB, .inl (cD, 32, .inl (fun _ => 0)))]) hP hD [5] [0, 1, 2, 3, 4] rfl rfl (by decide) (by decide) hk1 hFc hP1 hD1
    have hK := hK.app ((va_K.moved hvm.symm hK1).sub (tys' := [(cS, .int), (cA, .int), (cD, .int)]) [0, 1, 2] rfl)
    generalize H1 = H at hP hS ⊢
    have hP : va_P (dC, dI) vwCl [(h0, .inr (0, [.ref qk, .ref qb, .ref qo])), (qk, .inl (ck, 32, .inl fk)), (qb, .inl (cb, 8, .inl fb)), (qo, .inl (co, 8, .inl fo)), (qn, .inl (cn, 16, .inl g)), (qe, .inr (3, [.ref qS, .ref qA, .ref qB, .int 0, .int 0])), (qS, .inl (cS, 4, .inl (fun _ => 0))), (qA, .inl (cA, 32, .inl (fun _ => 0))), (qB, .inl (cD, 32, .inl (fun _ => 0)))] H := hP
    have hD : va_D A [(h0, .inr (0, [.ref qk, .ref qb, .ref qo])), (qk, .inl (ck, 32, .inl fk)), (qb, .inl (cb, 8, .inl fb)), (qo, .inl (co, 8, .inl fo)), (qn, .inl (cn, 16, .inl g)), (qe, .inr (3, [.ref qS, .ref qA, .ref qB, .int 0, .int 0])), (qS, .inl (cS, 4, .inl (fun _ => 0))), (qA, .inl (cA, 32, .inl (fun _ => 0))), (qB, .inl (cD, 32, .inl (fun _ => 0)))] := hD
    have hK : va_K (dC, dI) vwCl [(ck, .byte), (cb, .byte), (co, .byte), (cn, .byte), (cS, .int), (cA, .int), (cD, .int)] s := hK
    refine lv_astore (lv' := [(5, .ref qe), (0, .ref h0), (1, .int lk), (2, .int kd), (4, .ref qn)]) hx hb dX0_run_63 hl (by decide) rfl (fun ls hl => ?_)
    refine lv_aload hx hb dX0_run_65 (lv_at hl 0 rfl) ?_
    refine lv_iload_n hx hb dX0_run_67 rfl (lv_at hl 2 rfl) ?_
    refine va_new (ci := 4) (fs := [.null]) (C := RX4) (T := TX4) (N := 1) hx hb hts in_X4 tyX4 tyX4_ok hown (hts _ q120) (hts _ q121) (hts _ q21) hK hP hD hS hA rfl (fun j hj => by rcases (show j = 0 by omega) with rfl <;> rfl) (Nat.le_of_ble_eq_true rfl) (Nat.le_of_ble_eq_true rfl) dX0_run_68 (fun qp H hP hD hS => ?_)
    have hP : va_P (dC, dI) vwCl [(h0, .inr (0, [.ref qk, .ref qb, .ref qo])), (qk, .inl (ck, 32, .inl fk)), (qb, .inl (cb, 8, .inl fb)), (qo, .inl (co, 8, .inl fo)), (qn, .inl (cn, 16, .inl g)), (qe, .inr (3, [.ref qS, .ref qA, .ref qB, .int 0, .int 0])), (qS, .inl (cS, 4, .inl (fun _ => 0))), (qA, .inl (cA, 32, .inl (fun _ => 0))), (qB, .inl (cD, 32, .inl (fun _ => 0))), (qp, .inr (4, [.null]))] H := hP
    have hD : va_D A [(h0, .inr (0, [.ref qk, .ref qb, .ref qo])), (qk, .inl (ck, 32, .inl fk)), (qb, .inl (cb, 8, .inl fb)), (qo, .inl (co, 8, .inl fo)), (qn, .inl (cn, 16, .inl g)), (qe, .inr (3, [.ref qS, .ref qA, .ref qB, .int 0, .int 0])), (qS, .inl (cS, 4, .inl (fun _ => 0))), (qA, .inl (cA, 32, .inl (fun _ => 0))), (qB, .inl (cD, 32, .inl (fun _ => 0))), (qp, .inr (4, [.null]))] := hD
    refine lv_dup hx hb dX0_run_71 rfl ?_
    refine lv_aload hx hb dX0_run_72 (lv_at hl 4 rfl) ?_
    have hPc := hP.sub (ws' := [(qp, .inr (4, [.null])), (qn, .inl (cn, 16, .inl g))]) [9, 4] rfl
    have hDc := hD.sub (ws' := [(qp, .inr (4, [.null])), (qn, .inl (cn, 16, .inl g))]) [9, 4] (by decide) rfl
    have hKc := hK.sub (tys' := [(cn, .byte)]) [3] rfl
    have hFc := va_free (wc := [(qp, .inr (4, [.null])), (qn, .inl (cn, 16, .inl g))]) hD hS hA [9, 4] rfl
    refine va_callv (va_runI (As := [.ref qn]) (rest := [.ref qp, .int lk, .ref qe]) ⟨hx, hb, hml, hown, hts⟩ (metX4_init l dC dI qp qn cn g hfit H.size) (cwI 1 hts (lw_meth q124) rfl rfl rfl (hts _ q21) (hts _ q122) (hts _ q123) rfl (by decide +kernel) ⟨Nat.le_of_ble_eq_true rfl, Nat.le_of_ble_eq_true rfl⟩) ⟨fun a U g mk q => by obtain ⟨q0, q1, qP, qK, qD⟩ := q; exact ⟨q0, q1, qP, va_K.moved (u := U) (U := U.calling g mk a) (Vm.Alike.refl U.vm) qK, qD⟩, fun U hU hW => ⟨rfl, by rw [hU], by rw [hU]; exact hPc, va_K.moved hW.alike hKc, hDc.weaken (fun _ _ _ _ => trivial)⟩⟩ rfl rfl hl.1 rfl (lv_room (Nat.le_of_ble_eq_true rfl)) dX0_run_74 ⟨Nat.le_of_ble_eq_true rfl, Nat.le_of_ble_eq_true rfl⟩) hS (fun q _ h => hFc q h) hFc (fun v t H1 locs ht hvm hwv hB hzz hk1 hS => ?_)
    obtain ⟨qa, ca, hP1, hK1, hD1⟩ := hB
    rw [ht] at hP1
    obtain ⟨hP, hD⟩ := va_join (wr := [(h0, .inr (0, [.ref qk, .ref qb, .ref qo])), (qk, .inl (ck, 32, .inl fk)), (qb, .inl (cb, 8, .inl fb)), (qo, .inl (co, 8, .inl fo)), (qe, .inr (3, [.ref qS, .ref qA, .ref qB, .int 0, .int 0])), (qS, .inl (cS, 4, .inl (fun _ => 0))), (qA, .inl (cA, 32, .inl (fun _ => 0))), (qB, .inl (cD, 32, .inl (fun _ => 0)))]) (w1 := [(qp, .inr (4, [.ref qa])), (qn, .inl (cn, 16, .inl g)), (qa, .inl (ca, 16, .inl v))]) hP hD [9, 4] [0, 1, 2, 3, 5, 6, 7, 8] rfl rfl (by decide) (by decide) hk1 hFc hP1 hD1
    have hK := hK.app ((va_K.moved hvm.symm hK1).sub (tys' := [(ca, .byte)]) [1] rfl)
    generalize H1 = H at hP hS ⊢
    have hP : va_P (dC, dI) vwCl [(h0, .inr (0, [.ref qk, .ref qb, .ref qo])), (qk, .inl (ck, 32, .inl fk)), (qb, .inl (cb, 8, .inl fb)), (qo, .inl (co, 8, .inl fo)), (qe, .inr (3, [.ref qS, .ref qA, .ref qB, .int 0, .int 0])), (qS, .inl (cS, 4, .inl (fun _ => 0))), (qA, .inl (cA, 32, .inl (fun _ => 0))), (qB, .inl (cD, 32, .inl (fun _ => 0))), (qp, .inr (4, [.ref qa])), (qn, .inl (cn, 16, .inl g)), (qa, .inl (ca, 16, .inl v))] H := hP
    have hD : va_D A [(h0, .inr (0, [.ref qk, .ref qb, .ref qo])), (qk, .inl (ck, 32, .inl fk)), (qb, .inl (cb, 8, .inl fb)), (qo, .inl (co, 8, .inl fo)), (qe, .inr (3, [.ref qS, .ref qA, .ref qB, .int 0, .int 0])), (qS, .inl (cS, 4, .inl (fun _ => 0))), (qA, .inl (cA, 32, .inl (fun _ => 0))), (qB, .inl (cD, 32, .inl (fun _ => 0))), (qp, .inr (4, [.ref qa])), (qn, .inl (cn, 16, .inl g)), (qa, .inl (ca, 16, .inl v))] := hD
    have hK : va_K (dC, dI) vwCl [(ck, .byte), (cb, .byte), (co, .byte), (cn, .byte), (cS, .int), (cA, .int), (cD, .int), (ca, .byte)] s := hK
    have hk := tq_copy hg hwv
    have hPc := hP.sub (ws' := [(qe, .inr (3, [.ref qS, .ref qA, .ref qB, .int 0, .int 0])), (qS, .inl (cS, 4, .inl (fun _ => 0))), (qA, .inl (cA, 32, .inl (fun _ => 0))), (qB, .inl (cD, 32, .inl (fun _ => 0))), (qp, .inr (4, [.ref qa])), (qa, .inl (ca, 16, .inl v))]) [4, 5, 6, 7, 8, 10] rfl
    have hDc := hD.sub (ws' := [(qe, .inr (3, [.ref qS, .ref qA, .ref qB, .int 0, .int 0])), (qS, .inl (cS, 4, .inl (fun _ => 0))), (qA, .inl (cA, 32, .inl (fun _ => 0))), (qB, .inl (cD, 32, .inl (fun _ => 0))), (qp, .inr (4, [.ref qa])), (qa, .inl (ca, 16, .inl v))]) [4, 5, 6, 7, 8, 10] (by decide) rfl
    have hKc := hK.sub (tys' := [(cS, .int), (cA, .int), (cD, .int), (ca, .byte)]) [4, 5, 6, 7] rfl
    have hFc := va_free (wc := [(qe, .inr (3, [.ref qS, .ref qA, .ref qB, .int 0, .int 0])), (qS, .inl (cS, 4, .inl (fun _ => 0))), (qA, .inl (cA, 32, .inl (fun _ => 0))), (qB, .inl (cD, 32, .inl (fun _ => 0))), (qp, .inr (4, [.ref qa])), (qa, .inl (ca, 16, .inl v))]) hD hS hA [4, 5, 6, 7, 8, 10] rfl
    refine va_callFv (va_runF (hK.1 3 _ rfl).2 (As := [.int lk, .ref qp]) (rest := []) ⟨hx, hb, hml, hown, hts⟩ (metX3_init_2 l dC dI qe qS qA qB qp qa 0 0 lk hlk cS cA cD ca (fun _ => 0) (fun _ => 0) (fun _ => 0) v H.size) (va_cwF 2 hts (tk_wF q140 q232 q234 q20 q236) rfl rfl rfl hF.2.1 (by decide +kernel) ⟨Nat.le_of_ble_eq_true rfl, Nat.le_of_ble_eq_true rfl⟩) ⟨fun a U g mk q => by obtain ⟨q0, q1, qP, qK, qD⟩ := q; exact ⟨q0, q1, qP, va_K.moved (u := U) (U := U.calling g mk a) (Vm.Alike.refl U.vm) qK, qD⟩, va_recv hK hP (ci := 3) (q0 := 4) rfl rfl, fun U hU hW => ⟨rfl, by rw [hU], by rw [hU]; exact hPc, va_K.moved hW.alike hKc, hDc.weaken (fun _ _ _ _ => trivial)⟩⟩ rfl rfl hl.1 rfl (lv_room (Nat.le_of_ble_eq_true rfl)) dX0_run_77 ⟨Nat.le_of_ble_eq_true rfl, Nat.le_of_ble_eq_true rfl⟩) hS (fun q _ h => hFc q h) hFc (fun y t H1 locs ht hvm hwy hB hzz hk1 hS => ?_)
    obtain ⟨hP1, hK1, hD1⟩ := hB
    rw [ht] at hP1
    obtain ⟨hP, hD⟩ := va_join (wr := [(h0, .inr (0, [.ref qk, .ref qb, .ref qo])), (qk, .inl (ck, 32, .inl fk)), (qb, .inl (cb, 8, .inl fb)), (qo, .inl (co, 8, .inl fo)), (qn, .inl (cn, 16, .inl g))]) (w1 := [(qe, .inr (3, [.ref qS, .ref qA, .ref qB, .int 1, .int lk])), (qS, .inl (cS, 4, .inl y.1)), (qA, .inl (cA, 32, .inl y.2.1)), (qB, .inl (cD, 32, .inl y.2.2)), (qp, .inr (4, [.ref qa])), (qa, .inl (ca, 16, .inl v))]) hP hD [4, 5, 6, 7, 8, 10] [0, 1, 2, 3, 9] rfl rfl (by decide) (by decide) hk1 hFc hP1 hD1
    generalize H1 = H at hP hS ⊢
    have hP : va_P (dC, dI) vwCl [(h0, .inr (0, [.ref qk, .ref qb, .ref qo])), (qk, .inl (ck, 32, .inl fk)), (qb, .inl (cb, 8, .inl fb)), (qo, .inl (co, 8, .inl fo)), (qn, .inl (cn, 16, .inl g)), (qe, .inr (3, [.ref qS, .ref qA, .ref qB, .int 1, .int lk])), (qS, .inl (cS, 4, .inl y.1)), (qA, .inl (cA, 32, .inl y.2.1)), (qB, .inl (cD, 32, .inl y.2.2)), (qp, .inr (4, [.ref qa])), (qa, .inl (ca, 16, .inl v))] H := hP
    have hD : va_D A [(h0, .inr (0, [.ref qk, .ref qb, .ref qo])), (qk, .inl (ck, 32, .inl fk)), (qb, .inl (cb, 8, .inl fb)), (qo, .inl (co, 8, .inl fo)), (qn, .inl (cn, 16, .inl g)), (qe, .inr (3, [.ref qS, .ref qA, .ref qB, .int 1, .int lk])), (qS, .inl (cS, 4, .inl y.1)), (qA, .inl (cA, 32, .inl y.2.1)), (qB, .inl (cD, 32, .inl y.2.2)), (qp, .inr (4, [.ref qa])), (qa, .inl (ca, 16, .inl v))] := hD
    refine lv_aload hx hb dX0_run_82 (lv_at hl 0 rfl) ?_
    refine lv_aload_n hx hb dX0_run_84 rfl (lv_at hl 1 rfl) ?_
    refine va_get (D := (dC, dI)) (ci := 0) (v := .ref qb) (C := RX0) (T := TX0) (N := 3) hx hb hts in_X0 hown hK hP 0 rfl rfl 1 (by decide) (hts _ q40) (fun _ h9 => h9) rfl dX0_run_85 ?_
    refine lv_iconst (v := 0) hx hb dX0_run_88 (by decide) ?_
    refine tk_as (nI 0) (nI_0.symm) ?_
    refine lv_aload_n hx hb dX0_run_89 rfl (lv_at hl 1 rfl) ?_
    refine va_get (D := (dC, dI)) (ci := 0) (v := .ref qo) (C := RX0) (T := TX0) (N := 3) hx hb hts in_X0 hown hK hP 0 rfl rfl 2 (by decide) (hts _ q41) (fun _ h9 => h9) rfl dX0_run_90 ?_
    refine lv_iconst (v := 0) hx hb dX0_run_93 (by decide) ?_
    refine tk_as (nI 0) (nI_0.symm) ?_
    have hPc := hP.sub (ws' := [(qe, .inr (3, [.ref qS, .ref qA, .ref qB, .int 1, .int lk])), (qA, .inl (cA, 32, .inl y.2.1)), (qB, .inl (cD, 32, .inl y.2.2)), (qb, .inl (cb, 8, .inl fb)), (qo, .inl (co, 8, .inl fo))]) [5, 7, 8, 2, 3] rfl
    have hDc := hD.sub (ws' := [(qe, .inr (3, [.ref qS, .ref qA, .ref qB, .int 1, .int lk])), (qA, .inl (cA, 32, .inl y.2.1)), (qB, .inl (cD, 32, .inl y.2.2)), (qb, .inl (cb, 8, .inl fb)), (qo, .inl (co, 8, .inl fo))]) [5, 7, 8, 2, 3] (by decide) rfl
    have hKc := hK.sub (tys' := [(cA, .int), (cD, .int), (cb, .byte), (co, .byte)]) [5, 6, 1, 2] rfl
    have hFc := va_free (wc := [(qe, .inr (3, [.ref qS, .ref qA, .ref qB, .int 1, .int lk])), (qA, .inl (cA, 32, .inl y.2.1)), (qB, .inl (cD, 32, .inl y.2.2)), (qb, .inl (cb, 8, .inl fb)), (qo, .inl (co, 8, .inl fo))]) hD hS hA [5, 7, 8, 2, 3] rfl
    refine va_callFi (va_runF (hK.1 3 _ rfl).2 (As := [.ref qb, .int (nI 0), .ref qo, .int (nI 0)]) (rest := []) ⟨hx, hb, hml, hown, hts⟩ (metX3_processBlock l dC dI qe qS qA qB qb qo lk cA cD cb co (fun j => tq_w v (4 * j)) y.2.1 y.2.2 fb fo hwy H.size) (va_cwF 4 hts (tk_wF q253 q327 q329 q20 q331) rfl rfl rfl hF.2.2 (by decide +kernel) ⟨Nat.le_of_ble_eq_true rfl, Nat.le_of_ble_eq_true rfl⟩) ⟨fun a U g mk q => by obtain ⟨q0, q1, qP, qK, qD⟩ := q; exact ⟨q0, q1, qP, va_K.moved (u := U) (U := U.calling g mk a) (Vm.Alike.refl U.vm) qK, qD⟩, va_recv hK hP (ci := 3) (q0 := 5) rfl rfl, fun U hU hW => ⟨rfl, by rw [hU], by rw [hU]; exact hPc, va_K.moved hW.alike hKc, hDc.weaken (fun _ _ _ _ => trivial)⟩⟩ rfl rfl hl.1 rfl (lv_room (Nat.le_of_ble_eq_true rfl)) dX0_run_94 ⟨Nat.le_of_ble_eq_true rfl, Nat.le_of_ble_eq_true rfl⟩) hS (fun q _ h => hFc q h) hFc (fun r1 u t H1 locs ht hvm hwu hB hzz hk1 hS => ?_)
    obtain ⟨hP1, hK1, hD1⟩ := hB
    rw [ht] at hP1
    obtain ⟨hP, hD⟩ := va_join (wr := [(h0, .inr (0, [.ref qk, .ref qb, .ref qo])), (qk, .inl (ck, 32, .inl fk)), (qn, .inl (cn, 16, .inl g)), (qS, .inl (cS, 4, .inl y.1)), (qp, .inr (4, [.ref qa])), (qa, .inl (ca, 16, .inl v))]) (w1 := [(qe, .inr (3, [.ref qS, .ref qA, .ref qB, .int 1, .int lk])), (qA, .inl (cA, 32, .inl y.2.1)), (qB, .inl (cD, 32, .inl y.2.2)), (qb, .inl (cb, 8, .inl fb)), (qo, .inl (co, 8, .inl u))]) hP hD [5, 7, 8, 2, 3] [0, 1, 4, 6, 9, 10] rfl rfl (by decide) (by decide) hk1 hFc hP1 hD1
    generalize H1 = H at hP hS ⊢
    have hP : va_P (dC, dI) vwCl [(h0, .inr (0, [.ref qk, .ref qb, .ref qo])), (qk, .inl (ck, 32, .inl fk)), (qn, .inl (cn, 16, .inl g)), (qS, .inl (cS, 4, .inl y.1)), (qp, .inr (4, [.ref qa])), (qa, .inl (ca, 16, .inl v)), (qe, .inr (3, [.ref qS, .ref qA, .ref qB, .int 1, .int lk])), (qA, .inl (cA, 32, .inl y.2.1)), (qB, .inl (cD, 32, .inl y.2.2)), (qb, .inl (cb, 8, .inl fb)), (qo, .inl (co, 8, .inl u))] H := hP
    have hD : va_D A [(h0, .inr (0, [.ref qk, .ref qb, .ref qo])), (qk, .inl (ck, 32, .inl fk)), (qn, .inl (cn, 16, .inl g)), (qS, .inl (cS, 4, .inl y.1)), (qp, .inr (4, [.ref qa])), (qa, .inl (ca, 16, .inl v)), (qe, .inr (3, [.ref qS, .ref qA, .ref qB, .int 1, .int lk])), (qA, .inl (cA, 32, .inl y.2.1)), (qB, .inl (cD, 32, .inl y.2.2)), (qb, .inl (cb, 8, .inl fb)), (qo, .inl (co, 8, .inl u))] := hD
    refine lv_pop hx hb dX0_run_99 rfl ?_
    refine W.widen (k := 7) (n := 106) (Nat.le_of_ble_eq_true rfl) (Nat.le_of_ble_eq_true rfl) ?_
    have hP9 := hP.sub (ws' := [(h0, .inr (0, [.ref qk, .ref qb, .ref qo])), (qk, .inl (ck, 32, .inl fk)), (qb, .inl (cb, 8, .inl fb)), (qo, .inl (co, 8, .inl u))]) [0, 1, 9, 10] rfl
    have hD9 := hD.sub (ws' := [(h0, .inr (0, [.ref qk, .ref qb, .ref qo])), (qk, .inl (ck, 32, .inl fk)), (qb, .inl (cb, 8, .inl fb)), (qo, .inl (co, 8, .inl u))]) [0, 1, 9, 10] (by decide) rfl
    have hK9 := hK.sub (tys' := [(ck, .byte), (cb, .byte), (co, .byte)]) [0, 1, 2] rfl
    exact W.vret hx hb hr (fun t ht hW => ⟨⟨u, rfl, hwu.trans (tq_fin_x hk h9), by rw [ht]; exact hP9, va_K.moved hW.alike hK9, hD9⟩, hS.F ht⟩) hS.2.2 dX0_run_100
  · refine va_new (ci := 2) (fs := [.int 0, .int 0, .int 0, .int 0, .int 0, .int 0]) (C := RX2) (T := TX2) (N := 6) hx hb hts in_X2 tyX2 tyX2_ok hown (hts _ q72) (hts _ q73) (hts _ q19) hK hP hD hS hA rfl (fun j hj => by rcases (show j = 0 ∨ j = 1 ∨ j = 2 ∨ j = 3 ∨ j = 4 ∨ j = 5 by omega) with rfl | rfl | rfl | rfl | rfl | rfl <;> rfl) (Nat.le_of_ble_eq_true rfl) (Nat.le_of_ble_eq_true rfl) dX0_run_46 (fun qe H hP hD hS => ?_)
    have hP : va_P (dC, dI) vwCl [(h0, .inr (0, [.ref qk, .ref qb, .ref qo])), (qk, .inl (ck, 32, .inl fk)), (qb, .inl (cb, 8, .inl fb)), (qo, .inl (co, 8, .inl fo)), (qn, .inl (cn, 16, .inl g)), (qe, .inr (2, [.int 0, .int 0, .int 0, .int 0, .int 0, .int 0]))] H := hP
    have hD : va_D A [(h0, .inr (0, [.ref qk, .ref qb, .ref qo])), (qk, .inl (ck, 32, .inl fk)), (qb, .inl (cb, 8, .inl fb)), (qo, .inl (co, 8, .inl fo)), (qn, .inl (cn, 16, .inl g)), (qe, .inr (2, [.int 0, .int 0, .int 0, .int 0, .int 0, .int 0]))] := hD
    refine lv_dup hx hb dX0_run_49 rfl ?_
    have hPc := hP.sub (ws' := [(qe, .inr (2, [.int 0, .int 0, .int 0, .int 0, .int 0, .int 0]))]) [5] rfl
    have hDc := hD.sub (ws' := [(qe, .inr (2, [.int 0, .int 0, .int 0, .int 0, .int 0, .int 0]))]) [5] (by decide) rfl
    have hKc := hK.sub (tys' := []) [] rfl
    have hFc := va_free (wc := [(qe, .inr (2, [.int 0, .int 0, .int 0, .int 0, .int 0, .int 0]))]) hD hS hA [5] rfl
    refine va_callv (va_runI (As := []) (rest := [.ref qe]) ⟨hx, hb, hml, hown, hts⟩ (metX2_init l dC dI qe H.size) (cwI 0 hts (lw_meth q76) rfl rfl rfl (hts _ q19) (hts _ q74) (hts _ q75) rfl (by decide +kernel) ⟨Nat.le_of_ble_eq_true rfl, Nat.le_of_ble_eq_true rfl⟩) ⟨fun a U g mk q => by obtain ⟨q0, q1, qP, qK, qD⟩ := q; exact ⟨q0, q1, qP, va_K.moved (u := U) (U := U.calling g mk a) (Vm.Alike.refl U.vm) qK, qD⟩, fun U hU hW => ⟨rfl, by rw [hU], by rw [hU]; exact hPc, va_K.moved hW.alike hKc, hDc.weaken (fun _ _ _ _ => trivial)⟩⟩ rfl rfl hl.1 rfl (lv_room (Nat.le_of_ble_eq_true rfl)) dX0_run_50 ⟨Nat.le_of_ble_eq_true rfl, Nat.le_of_ble_eq_true rfl⟩) hS (fun q _ h => hFc q h) hFc (fun _u t H1 locs ht hvm _hw hB hzz hk1 hS => ?_)
    obtain ⟨hP1, hK1, hD1⟩ := hB
    rw [ht] at hP1
    obtain ⟨hP, hD⟩ := va_join (wr := [(h0, .inr (0, [.ref qk, .ref qb, .ref qo])), (qk, .inl (ck, 32, .inl fk)), (qb, .inl (cb, 8, .inl fb)), (qo, .inl (co, 8, .inl fo)), (qn, .inl (cn, 16, .inl g))]) (w1 := [(qe, .inr (2, [.int 0, .int 0, .int 0, .int 0, .int 0, .int 0]))]) hP hD [5] [0, 1, 2, 3, 4] rfl rfl (by decide) (by decide) hk1 hFc hP1 hD1
    generalize H1 = H at hP hS ⊢
    have hP : va_P (dC, dI) vwCl [(h0, .inr (0, [.ref qk, .ref qb, .ref qo])), (qk, .inl (ck, 32, .inl fk)), (qb, .inl (cb, 8, .inl fb)), (qo, .inl (co, 8, .inl fo)), (qn, .inl (cn, 16, .inl g)), (qe, .inr (2, [.int 0, .int 0, .int 0, .int 0, .int 0, .int 0]))] H := hP
    have hD : va_D A [(h0, .inr (0, [.ref qk, .ref qb, .ref qo])), (qk, .inl (ck, 32, .inl fk)), (qb, .inl (cb, 8, .inl fb)), (qo, .inl (co, 8, .inl fo)), (qn, .inl (cn, 16, .inl g)), (qe, .inr (2, [.int 0, .int 0, .int 0, .int 0, .int 0, .int 0]))] := hD
    refine lv_goto (tgt := 63) hx hb dX0_run_53 (by decide) ?_
    refine lv_astore (lv' := [(5, .ref qe), (0, .ref h0), (1, .int lk), (2, .int kd), (4, .ref qn)]) hx hb dX0_run_63 hl (by decide) rfl (fun ls hl => ?_)
    refine lv_aload hx hb dX0_run_65 (lv_at hl 0 rfl) ?_
    refine lv_iload_n hx hb dX0_run_67 rfl (lv_at hl 2 rfl) ?_
    refine va_new (ci := 4) (fs := [.null]) (C := RX4) (T := TX4) (N := 1) hx hb hts in_X4 tyX4 tyX4_ok hown (hts _ q120) (hts _ q121) (hts _ q21) hK hP hD hS hA rfl (fun j hj => by rcases (show j = 0 by omega) with rfl <;> rfl) (Nat.le_of_ble_eq_true rfl) (Nat.le_of_ble_eq_true rfl) dX0_run_68 (fun qp H hP hD hS => ?_)
    have hP : va_P (dC, dI) vwCl [(h0, .inr (0, [.ref qk, .ref qb, .ref qo])), (qk, .inl (ck, 32, .inl fk)), (qb, .inl (cb, 8, .inl fb)), (qo, .inl (co, 8, .inl fo)), (qn, .inl (cn, 16, .inl g)), (qe, .inr (2, [.int 0, .int 0, .int 0, .int 0, .int 0, .int 0])), (qp, .inr (4, [.null]))] H := hP
    have hD : va_D A [(h0, .inr (0, [.ref qk, .ref qb, .ref qo])), (qk, .inl (ck, 32, .inl fk)), (qb, .inl (cb, 8, .inl fb)), (qo, .inl (co, 8, .inl fo)), (qn, .inl (cn, 16, .inl g)), (qe, .inr (2, [.int 0, .int 0, .int 0, .int 0, .int 0, .int 0])), (qp, .inr (4, [.null]))] := hD
    refine lv_dup hx hb dX0_run_71 rfl ?_
    refine lv_aload hx hb dX0_run_72 (lv_at hl 4 rfl) ?_
    have hPc := hP.sub (ws' := [(qp, .inr (4, [.null])), (qn, .inl (cn, 16, .inl g))]) [6, 4] rfl
    have hDc := hD.sub (ws' := [(qp, .inr (4, [.null])), (qn, .inl (cn, 16, .inl g))]) [6, 4] (by decide) rfl
    have hKc := hK.sub (tys' := [(cn, .byte)]) [3] rfl
    have hFc := va_free (wc := [(qp, .inr (4, [.null])), (qn, .inl (cn, 16, .inl g))]) hD hS hA [6, 4] rfl
    refine va_callv (va_runI (As := [.ref qn]) (rest := [.ref qp, .int lk, .ref qe]) ⟨hx, hb, hml, hown, hts⟩ (metX4_init l dC dI qp qn cn g hfit H.size) (cwI 1 hts (lw_meth q124) rfl rfl rfl (hts _ q21) (hts _ q122) (hts _ q123) rfl (by decide +kernel) ⟨Nat.le_of_ble_eq_true rfl, Nat.le_of_ble_eq_true rfl⟩) ⟨fun a U g mk q => by obtain ⟨q0, q1, qP, qK, qD⟩ := q; exact ⟨q0, q1, qP, va_K.moved (u := U) (U := U.calling g mk a) (Vm.Alike.refl U.vm) qK, qD⟩, fun U hU hW => ⟨rfl, by rw [hU], by rw [hU]; exact hPc, va_K.moved hW.alike hKc, hDc.weaken (fun _ _ _ _ => trivial)⟩⟩ rfl rfl hl.1 rfl (lv_room (Nat.le_of_ble_eq_true rfl)) dX0_run_74 ⟨Nat.le_of_ble_eq_true rfl, Nat.le_of_ble_eq_true rfl⟩) hS (fun q _ h => hFc q h) hFc (fun v t H1 locs ht hvm hwv hB hzz hk1 hS => ?_)
    obtain ⟨qa, ca, hP1, hK1, hD1⟩ := hB
    rw [ht] at hP1
    obtain ⟨hP, hD⟩ := va_join (wr := [(h0, .inr (0, [.ref qk, .ref qb, .ref qo])), (qk, .inl (ck, 32, .inl fk)), (qb, .inl (cb, 8, .inl fb)), (qo, .inl (co, 8, .inl fo)), (qe, .inr (2, [.int 0, .int 0, .int 0, .int 0, .int 0, .int 0]))]) (w1 := [(qp, .inr (4, [.ref qa])), (qn, .inl (cn, 16, .inl g)), (qa, .inl (ca, 16, .inl v))]) hP hD [6, 4] [0, 1, 2, 3, 5] rfl rfl (by decide) (by decide) hk1 hFc hP1 hD1
    have hK := hK.app ((va_K.moved hvm.symm hK1).sub (tys' := [(ca, .byte)]) [1] rfl)
    generalize H1 = H at hP hS ⊢
    have hP : va_P (dC, dI) vwCl [(h0, .inr (0, [.ref qk, .ref qb, .ref qo])), (qk, .inl (ck, 32, .inl fk)), (qb, .inl (cb, 8, .inl fb)), (qo, .inl (co, 8, .inl fo)), (qe, .inr (2, [.int 0, .int 0, .int 0, .int 0, .int 0, .int 0])), (qp, .inr (4, [.ref qa])), (qn, .inl (cn, 16, .inl g)), (qa, .inl (ca, 16, .inl v))] H := hP
    have hD : va_D A [(h0, .inr (0, [.ref qk, .ref qb, .ref qo])), (qk, .inl (ck, 32, .inl fk)), (qb, .inl (cb, 8, .inl fb)), (qo, .inl (co, 8, .inl fo)), (qe, .inr (2, [.int 0, .int 0, .int 0, .int 0, .int 0, .int 0])), (qp, .inr (4, [.ref qa])), (qn, .inl (cn, 16, .inl g)), (qa, .inl (ca, 16, .inl v))] := hD
    have hK : va_K (dC, dI) vwCl [(ck, .byte), (cb, .byte), (co, .byte), (cn, .byte), (ca, .byte)] s := hK
    have hk := tq_copy hg hwv
    have hPc := hP.sub (ws' := [(qe, .inr (2, [.int 0, .int 0, .int 0, .int 0, .int 0, .int 0])), (qp, .inr (4, [.ref qa])), (qa, .inl (ca, 16, .inl v))]) [4, 5, 7] rfl
    have hDc := hD.sub (ws' := [(qe, .inr (2, [.int 0, .int 0, .int 0, .int 0, .int 0, .int 0])), (qp, .inr (4, [.ref qa])), (qa, .inl (ca, 16, .inl v))]) [4, 5, 7] (by decide) rfl
    have hKc := hK.sub (tys' := [(ca, .byte)]) [4] rfl
    have hFc := va_free (wc := [(qe, .inr (2, [.int 0, .int 0, .int 0, .int 0, .int 0, .int 0])), (qp, .inr (4, [.ref qa])), (qa, .inl (ca, 16, .inl v))]) hD hS hA [4, 5, 7] rfl
    refine va_callFv (va_runF (hK.1 2 _ rfl).2 (As := [.int lk, .ref qp]) (rest := []) ⟨hx, hb, hml, hown, hts⟩ (metX2_init_2 l dC dI qe qp qa 0 0 0 0 0 0 lk hlk ca v H.size) (va_cwF 2 hts (tk_wF q140 q144 q146 q19 q148) rfl rfl rfl hF.1.1 (by decide +kernel) ⟨Nat.le_of_ble_eq_true rfl, Nat.le_of_ble_eq_true rfl⟩) ⟨fun a U g mk q => by obtain ⟨q0, q1, qP, qK, qD⟩ := q; exact ⟨q0, q1, qP, va_K.moved (u := U) (U := U.calling g mk a) (Vm.Alike.refl U.vm) qK, qD⟩, va_recv hK hP (ci := 2) (q0 := 4) rfl rfl, fun U hU hW => ⟨rfl, by rw [hU], by rw [hU]; exact hPc, va_K.moved hW.alike hKc, hDc.weaken (fun _ _ _ _ => trivial)⟩⟩ rfl rfl hl.1 rfl (lv_room (Nat.le_of_ble_eq_true rfl)) dX0_run_77 ⟨Nat.le_of_ble_eq_true rfl, Nat.le_of_ble_eq_true rfl⟩) hS (fun q _ h => hFc q h) hFc (fun _y t H1 locs ht hvm _hwy hB hzz hk1 hS => ?_)
    obtain ⟨hP1, hK1, hD1⟩ := hB
    rw [ht] at hP1
    obtain ⟨hP, hD⟩ := va_join (wr := [(h0, .inr (0, [.ref qk, .ref qb, .ref qo])), (qk, .inl (ck, 32, .inl fk)), (qb, .inl (cb, 8, .inl fb)), (qo, .inl (co, 8, .inl fo)), (qn, .inl (cn, 16, .inl g))]) (w1 := [(qe, .inr (2, [.int (tq_w v 0), .int (tq_w v 4), .int (tq_w v 8), .int (tq_w v 12), .int 1, .int lk])), (qp, .inr (4, [.ref qa])), (qa, .inl (ca, 16, .inl v))]) hP hD [4, 5, 7] [0, 1, 2, 3, 6] rfl rfl (by decide) (by decide) hk1 hFc hP1 hD1
    generalize H1 = H at hP hS ⊢
    have hP : va_P (dC, dI) vwCl [(h0, .inr (0, [.ref qk, .ref qb, .ref qo])), (qk, .inl (ck, 32, .inl fk)), (qb, .inl (cb, 8, .inl fb)), (qo, .inl (co, 8, .inl fo)), (qn, .inl (cn, 16, .inl g)), (qe, .inr (2, [.int (tq_w v 0), .int (tq_w v 4), .int (tq_w v 8), .int (tq_w v 12), .int 1, .int lk])), (qp, .inr (4, [.ref qa])), (qa, .inl (ca, 16, .inl v))] H := hP
    have hD : va_D A [(h0, .inr (0, [.ref qk, .ref qb, .ref qo])), (qk, .inl (ck, 32, .inl fk)), (qb, .inl (cb, 8, .inl fb)), (qo, .inl (co, 8, .inl fo)), (qn, .inl (cn, 16, .inl g)), (qe, .inr (2, [.int (tq_w v 0), .int (tq_w v 4), .int (tq_w v 8), .int (tq_w v 12), .int 1, .int lk])), (qp, .inr (4, [.ref qa])), (qa, .inl (ca, 16, .inl v))] := hD
    refine lv_aload hx hb dX0_run_82 (lv_at hl 0 rfl) ?_
    refine lv_aload_n hx hb dX0_run_84 rfl (lv_at hl 1 rfl) ?_
    refine va_get (D := (dC, dI)) (ci := 0) (v := .ref qb) (C := RX0) (T := TX0) (N := 3) hx hb hts in_X0 hown hK hP 0 rfl rfl 1 (by decide) (hts _ q40) (fun _ h9 => h9) rfl dX0_run_85 ?_
    refine lv_iconst (v := 0) hx hb dX0_run_88 (by decide) ?_
    refine tk_as (nI 0) (nI_0.symm) ?_
    refine lv_aload_n hx hb dX0_run_89 rfl (lv_at hl 1 rfl) ?_
    refine va_get (D := (dC, dI)) (ci := 0) (v := .ref qo) (C := RX0) (T := TX0) (N := 3) hx hb hts in_X0 hown hK hP 0 rfl rfl 2 (by decide) (hts _ q41) (fun _ h9 => h9) rfl dX0_run_90 ?_
    refine lv_iconst (v := 0) hx hb dX0_run_93 (by decide) ?_
    refine tk_as (nI 0) (nI_0.symm) ?_
    have hPc := hP.sub (ws' := [(qe, .inr (2, [.int (tq_w v 0), .int (tq_w v 4), .int (tq_w v 8), .int (tq_w v 12), .int 1, .int lk])), (qb, .inl (cb, 8, .inl fb)), (qo, .inl (co, 8, .inl fo))]) [5, 2, 3] rfl
    have hDc := hD.sub (ws' := [(qe, .inr (2, [.int (tq_w v 0), .int (tq_w v 4), .int (tq_w v 8), .int (tq_w v 12), .int 1, .int lk])), (qb, .inl (cb, 8, .inl fb)), (qo, .inl (co, 8, .inl fo))]) [5, 2, 3] (by decide) rfl
    have hKc := hK.sub (tys' := [(cb, .byte), (co, .byte)]) [1, 2] rfl
    have hFc := va_free (wc := [(qe, .inr (2, [.int (tq_w v 0), .int (tq_w v 4), .int (tq_w v 8), .int (tq_w v 12), .int 1, .int lk])), (qb, .inl (cb, 8, .inl fb)), (qo, .inl (co, 8, .inl fo))]) hD hS hA [5, 2, 3] rfl
    refine va_callFi (va_runF (hK.1 2 _ rfl).2 (As := [.ref qb, .int (nI 0), .ref qo, .int (nI 0)]) (rest := []) ⟨hx, hb, hml, hown, hts⟩ (metX2_processBlock l dC dI qe qb qo (tq_w v 0) (tq_w v 4) (tq_w v 8) (tq_w v 12) lk cb co fb fo H.size) (va_cwF 4 hts (tk_wF q253 q256 q258 q19 q260) rfl rfl rfl hF.1.2 (by decide +kernel) ⟨Nat.le_of_ble_eq_true rfl, Nat.le_of_ble_eq_true rfl⟩) ⟨fun a U g mk q => by obtain ⟨q0, q1, qP, qK, qD⟩ := q; exact ⟨q0, q1, qP, va_K.moved (u := U) (U := U.calling g mk a) (Vm.Alike.refl U.vm) qK, qD⟩, va_recv hK hP (ci := 2) (q0 := 5) rfl rfl, fun U hU hW => ⟨rfl, by rw [hU], by rw [hU]; exact hPc, va_K.moved hW.alike hKc, hDc.weaken (fun _ _ _ _ => trivial)⟩⟩ rfl rfl hl.1 rfl (lv_room (Nat.le_of_ble_eq_true rfl)) dX0_run_94 ⟨Nat.le_of_ble_eq_true rfl, Nat.le_of_ble_eq_true rfl⟩) hS (fun q _ h => hFc q h) hFc (fun r1 u t H1 locs ht hvm hwu hB hzz hk1 hS => ?_)
    obtain ⟨hP1, hK1, hD1⟩ := hB
    rw [ht] at hP1
    obtain ⟨hP, hD⟩ := va_join (wr := [(h0, .inr (0, [.ref qk, .ref qb, .ref qo])), (qk, .inl (ck, 32, .inl fk)), (qn, .inl (cn, 16, .inl g)), (qp, .inr (4, [.ref qa])), (qa, .inl (ca, 16, .inl v))]) (w1 := [(qe, .inr (2, [.int (tq_w v 0), .int (tq_w v 4), .int (tq_w v 8), .int (tq_w v 12), .int 1, .int lk])), (qb, .inl (cb, 8, .inl fb)), (qo, .inl (co, 8, .inl u))]) hP hD [5, 2, 3] [0, 1, 4, 6, 7] rfl rfl (by decide) (by decide) hk1 hFc hP1 hD1
    generalize H1 = H at hP hS ⊢
    have hP : va_P (dC, dI) vwCl [(h0, .inr (0, [.ref qk, .ref qb, .ref qo])), (qk, .inl (ck, 32, .inl fk)), (qn, .inl (cn, 16, .inl g)), (qp, .inr (4, [.ref qa])), (qa, .inl (ca, 16, .inl v)), (qe, .inr (2, [.int (tq_w v 0), .int (tq_w v 4), .int (tq_w v 8), .int (tq_w v 12), .int 1, .int lk])), (qb, .inl (cb, 8, .inl fb)), (qo, .inl (co, 8, .inl u))] H := hP
    have hD : va_D A [(h0, .inr (0, [.ref qk, .ref qb, .ref qo])), (qk, .inl (ck, 32, .inl fk)), (qn, .inl (cn, 16, .inl g)), (qp, .inr (4, [.ref qa])), (qa, .inl (ca, 16, .inl v)), (qe, .inr (2, [.int (tq_w v 0), .int (tq_w v 4), .int (tq_w v 8), .int (tq_w v 12), .int 1, .int lk])), (qb, .inl (cb, 8, .inl fb)), (qo, .inl (co, 8, .inl u))] := hD
    refine lv_pop hx hb dX0_run_99 rfl ?_
    refine W.widen (k := 7) (n := 106) (Nat.le_of_ble_eq_true rfl) (Nat.le_of_ble_eq_true rfl) ?_
    have hP9 := hP.sub (ws' := [(h0, .inr (0, [.ref qk, .ref qb, .ref qo])), (qk, .inl (ck, 32, .inl fk)), (qb, .inl (cb, 8, .inl fb)), (qo, .inl (co, 8, .inl u))]) [0, 1, 6, 7] rfl
    have hD9 := hD.sub (ws' := [(h0, .inr (0, [.ref qk, .ref qb, .ref qo])), (qk, .inl (ck, 32, .inl fk)), (qb, .inl (cb, 8, .inl fb)), (qo, .inl (co, 8, .inl u))]) [0, 1, 6, 7] (by decide) rfl
    have hK9 := hK.sub (tys' := [(ck, .byte), (cb, .byte), (co, .byte)]) [0, 1, 2] rfl
    exact W.vret hx hb hr (fun t ht hW => ⟨⟨u, rfl, hwu.trans (tq_fin_t hk h9), by rw [ht]; exact hP9, va_K.moved hW.alike hK9, hD9⟩, hS.F ht⟩) hS.2.2 dX0_run_100
set_option maxHeartbeats 4000000 in
set_option maxRecDepth 100000 in
/-- lock -/
theorem metX0_lock (l : Launch) (dC : Nat → ClassId) (dI : Nat → Nat → Nat) (h0 qk qb qo : Nat) (ck cb co : ClassId) (fk fb fo : Nat → Int32) (kd : Int32) (sz : Nat) : Met l yX0_lock (ws_ yX0_lock cX0_lock 2 none) ({ frames := 5, cells := 7, slots := 106, locals := 130 }) (va_Pc [.ref h0, .int kd] (fun U => U.heap.size = sz ∧ va_P (dC, dI) vwCl [(h0, .inr (0, [.ref qk, .ref qb, .ref qo])), (qk, .inl (ck, 32, .inl fk)), (qb, .inl (cb, 8, .inl fb)), (qo, .inl (co, 8, .inl fo))] U.heap ∧ va_K (dC, dI) vwCl [(ck, .byte), (cb, .byte), (co, .byte)] U ∧ va_D (fun _ => True) [(h0, .inr (0, [.ref qk, .ref qb, .ref qo])), (qk, .inl (ck, 32, .inl fk)), (qb, .inl (cb, 8, .inl fb)), (qo, .inl (co, 8, .inl fo))] ∧ tk_FF U)) (va_Qv (fun u : Nat → Int32 => (tq_w u 0, tq_w u 4) = tq_C 1 kd (fun j => tq_w fk (4 * j)) (tq_w fb 0) (tq_w fb 4)) (fun u t => va_P (dC, dI) vwCl [(h0, .inr (0, [.ref qk, .ref qb, .ref qo])), (qk, .inl (ck, 32, .inl fk)), (qb, .inl (cb, 8, .inl fb)), (qo, .inl (co, 8, .inl u))] t.heap ∧ va_K (dC, dI) vwCl [(ck, .byte), (cb, .byte), (co, .byte)] t ∧ va_D (va_A [(h0, .inr (0, [.ref qk, .ref qb, .ref qo])), (qk, .inl (ck, 32, .inl fk)), (qb, .inl (cb, 8, .inl fb)), (qo, .inl (co, 8, .inl fo))] sz) [(h0, .inr (0, [.ref qk, .ref qb, .ref qo])), (qk, .inl (ck, 32, .inl fk)), (qb, .inl (cb, 8, .inl fb)), (qo, .inl (co, 8, .inl u))]) (va_A [(h0, .inr (0, [.ref qk, .ref qb, .ref qo])), (qk, .inl (ck, 32, .inl fk)), (qb, .inl (cb, 8, .inl fb)), (qo, .inl (co, 8, .inl fo))] sz)) 7 106 (va_A [(h0, .inr (0, [.ref qk, .ref qb, .ref qo])), (qk, .inl (ck, 32, .inl fk)), (qb, .inl (cb, 8, .inl fb)), (qo, .inl (co, 8, .inl fo))] sz) := by
  refine Met.ofW (cc := cX0_lock) (maxL := 2) (ret := none) (by decide) rfl ?_
  intro p e s m args below meth c s₁ B hml hv
  obtain ⟨rfl, hsz, hP, hK, hD0, hF⟩ := hv
  have hx := B.exec
  have hb := B.bytes
  have hr := B.returns
  have hts := atoms_spec (ws := ws_ yX0_lock cX0_lock 2 none) B.pre
  have hts : ∀ w ∈ lw_all, w.before _ s = true := fun w h => hts w (List.mem_cons_of_mem _ h)
  have hown : s.vm.findClass RX0 = some m.cls := findClass_of_methodNamed B.named
  have hlocks := B.notSynchronized
  subst hsz
  have hD := hD0.self (sz := s.heap.size)
  generalize hAe : va_A [(h0, .inr (0, [.ref qk, .ref qb, .ref qo])), (qk, .inl (ck, 32, .inl fk)), (qb, .inl (cb, 8, .inl fb)), (qo, .inl (co, 8, .inl fo))] s.heap.size = A at hD ⊢
  have hA : ∀ q : Nat, s.heap.size ≤ q → A q := fun q h => by rw [← hAe]; exact Or.inr h
  have hS : va_S A s.heap s.heap [] := va_S.rf
  have hl := lv_entry ([.ref h0, .int kd]) (n := 2) (Nat.le_of_ble_eq_true rfl)
  rw [lg_entry_eq]
  generalize (lg_sl ([.ref h0, .int kd]) ++ List.replicate (2 - (lg_sl ([.ref h0, .int kd])).length) Slot.unset).toArray = ls at hl ⊢
  have hl : lv_has ls 2 [(0, .ref h0), (1, .int kd)] := hl
  have hP : va_P (dC, dI) vwCl [(h0, .inr (0, [.ref qk, .ref qb, .ref qo])), (qk, .inl (ck, 32, .inl fk)), (qb, .inl (cb, 8, .inl fb)), (qo, .inl (co, 8, .inl fo))] s.heap := hP
  refine lv_aload_n hx hb dX0_lock_0 rfl (lv_at hl 0 rfl) ?_
  refine lv_iconst (v := 1) hx hb dX0_lock_1 (by decide) ?_
  refine lv_iload_n hx hb dX0_lock_2 rfl (lv_at hl 1 rfl) ?_
  have hPc := hP.sub (ws' := [(h0, .inr (0, [.ref qk, .ref qb, .ref qo])), (qk, .inl (ck, 32, .inl fk)), (qb, .inl (cb, 8, .inl fb)), (qo, .inl (co, 8, .inl fo))]) [0, 1, 2, 3] rfl
  have hDc := hD.sub (ws' := [(h0, .inr (0, [.ref qk, .ref qb, .ref qo])), (qk, .inl (ck, 32, .inl fk)), (qb, .inl (cb, 8, .inl fb)), (qo, .inl (co, 8, .inl fo))]) [0, 1, 2, 3] (by decide) rfl
  have hKc := hK.sub (tys' := [(ck, .byte), (cb, .byte), (co, .byte)]) [0, 1, 2] rfl
  have hFc := va_free (wc := [(h0, .inr (0, [.ref qk, .ref qb, .ref qo])), (qk, .inl (ck, 32, .inl fk)), (qb, .inl (cb, 8, .inl fb)), (qo, .inl (co, 8, .inl fo))]) hD hS hA [0, 1, 2, 3] rfl
  refine va_callv (va_runV (As := [.int 1, .int kd]) (rest := []) ⟨hx, hb, hml, hown, hts⟩ (metX0_run l dC dI h0 qk qb qo ck cb co fk fb fo 1 kd (by decide) s.heap.size) (cwV 2 hts (lw_V q65 q67 qs0 q17 q68) rfl rfl rfl (by decide +kernel) ⟨Nat.le_of_ble_eq_true rfl, Nat.le_of_ble_eq_true rfl⟩) ⟨fun a U g mk q => by obtain ⟨q0, q1, qP, qK, qD, qF⟩ := q; exact ⟨q0, q1, qP, va_K.moved (u := U) (U := U.calling g mk a) (Vm.Alike.refl U.vm) qK, qD, tk_FF.moved (u := U) (U := U.calling g mk a) (Vm.Alike.refl U.vm) qF⟩, va_recv hK hP (ci := 0) (q0 := 0) rfl rfl, fun U hU hW => ⟨rfl, by rw [hU], by rw [hU]; exact hPc, va_K.moved hW.alike hKc, hDc.weaken (fun _ _ _ _ => trivial), tk_FF.moved hW.alike hF⟩⟩ rfl rfl hl.1 rfl (lv_room (Nat.le_of_ble_eq_true rfl)) dX0_lock_3 ⟨Nat.le_of_ble_eq_true rfl, Nat.le_of_ble_eq_true rfl⟩) hS (fun q _ h => hFc q h) hFc (fun u t H1 locs ht hvm hw hB hzz hk1 hS => ?_)
  obtain ⟨hP1, hK1, hD1⟩ := hB
  rw [ht] at hP1
  obtain ⟨hP, hD⟩ := va_join (wr := []) (w1 := [(h0, .inr (0, [.ref qk, .ref qb, .ref qo])), (qk, .inl (ck, 32, .inl fk)), (qb, .inl (cb, 8, .inl fb)), (qo, .inl (co, 8, .inl u))]) hP hD [0, 1, 2, 3] [] rfl rfl (by decide) (by decide) hk1 hFc hP1 hD1
  generalize H1 = H at hP hS ⊢
  have hP : va_P (dC, dI) vwCl [(h0, .inr (0, [.ref qk, .ref qb, .ref qo])), (qk, .inl (ck, 32, .inl fk)), (qb, .inl (cb, 8, .inl fb)), (qo, .inl (co, 8, .inl u))] H := hP
  have hD : va_D A [(h0, .inr (0, [.ref qk, .ref qb, .ref qo])), (qk, .inl (ck, 32, .inl fk)), (qb, .inl (cb, 8, .inl fb)), (qo, .inl (co, 8, .inl u))] := hD
  refine W.widen (k := 7) (n := 106) (Nat.le_of_ble_eq_true rfl) (Nat.le_of_ble_eq_true rfl) ?_
  have hP9 := hP.sub (ws' := [(h0, .inr (0, [.ref qk, .ref qb, .ref qo])), (qk, .inl (ck, 32, .inl fk)), (qb, .inl (cb, 8, .inl fb)), (qo, .inl (co, 8, .inl u))]) [0, 1, 2, 3] rfl
  have hD9 := hD.sub (ws' := [(h0, .inr (0, [.ref qk, .ref qb, .ref qo])), (qk, .inl (ck, 32, .inl fk)), (qb, .inl (cb, 8, .inl fb)), (qo, .inl (co, 8, .inl u))]) [0, 1, 2, 3] (by decide) rfl
  have hK9 := hK.sub (tys' := [(ck, .byte), (cb, .byte), (co, .byte)]) [0, 1, 2] rfl
  exact W.vret hx hb hr (fun t ht hW => ⟨⟨u, rfl, hw, by rw [ht]; exact hP9, va_K.moved hW.alike hK9, hD9⟩, hS.F ht⟩) hS.2.2 dX0_lock_6
set_option maxHeartbeats 4000000 in
set_option maxRecDepth 100000 in
/-- open -/
theorem metX0_open (l : Launch) (dC : Nat → ClassId) (dI : Nat → Nat → Nat) (h0 qk qb qo : Nat) (ck cb co : ClassId) (fk fb fo : Nat → Int32) (kd : Int32) (sz : Nat) : Met l yX0_open (ws_ yX0_open cX0_open 2 none) ({ frames := 5, cells := 7, slots := 106, locals := 130 }) (va_Pc [.ref h0, .int kd] (fun U => U.heap.size = sz ∧ va_P (dC, dI) vwCl [(h0, .inr (0, [.ref qk, .ref qb, .ref qo])), (qk, .inl (ck, 32, .inl fk)), (qb, .inl (cb, 8, .inl fb)), (qo, .inl (co, 8, .inl fo))] U.heap ∧ va_K (dC, dI) vwCl [(ck, .byte), (cb, .byte), (co, .byte)] U ∧ va_D (fun _ => True) [(h0, .inr (0, [.ref qk, .ref qb, .ref qo])), (qk, .inl (ck, 32, .inl fk)), (qb, .inl (cb, 8, .inl fb)), (qo, .inl (co, 8, .inl fo))] ∧ tk_FF U)) (va_Qv (fun u : Nat → Int32 => (tq_w u 0, tq_w u 4) = tq_C 0 kd (fun j => tq_w fk (4 * j)) (tq_w fb 0) (tq_w fb 4)) (fun u t => va_P (dC, dI) vwCl [(h0, .inr (0, [.ref qk, .ref qb, .ref qo])), (qk, .inl (ck, 32, .inl fk)), (qb, .inl (cb, 8, .inl fb)), (qo, .inl (co, 8, .inl u))] t.heap ∧ va_K (dC, dI) vwCl [(ck, .byte), (cb, .byte), (co, .byte)] t ∧ va_D (va_A [(h0, .inr (0, [.ref qk, .ref qb, .ref qo])), (qk, .inl (ck, 32, .inl fk)), (qb, .inl (cb, 8, .inl fb)), (qo, .inl (co, 8, .inl fo))] sz) [(h0, .inr (0, [.ref qk, .ref qb, .ref qo])), (qk, .inl (ck, 32, .inl fk)), (qb, .inl (cb, 8, .inl fb)), (qo, .inl (co, 8, .inl u))]) (va_A [(h0, .inr (0, [.ref qk, .ref qb, .ref qo])), (qk, .inl (ck, 32, .inl fk)), (qb, .inl (cb, 8, .inl fb)), (qo, .inl (co, 8, .inl fo))] sz)) 7 106 (va_A [(h0, .inr (0, [.ref qk, .ref qb, .ref qo])), (qk, .inl (ck, 32, .inl fk)), (qb, .inl (cb, 8, .inl fb)), (qo, .inl (co, 8, .inl fo))] sz) := by
  refine Met.ofW (cc := cX0_open) (maxL := 2) (ret := none) (by decide) rfl ?_
  intro p e s m args below meth c s₁ B hml hv
  obtain ⟨rfl, hsz, hP, hK, hD0, hF⟩ := hv
  have hx := B.exec
  have hb := B.bytes
  have hr := B.returns
  have hts := atoms_spec (ws := ws_ yX0_open cX0_open 2 none) B.pre
  have hts : ∀ w ∈ lw_all, w.before _ s = true := fun w h => hts w (List.mem_cons_of_mem _ h)
  have hown : s.vm.findClass RX0 = some m.cls := findClass_of_methodNamed B.named
  have hlocks := B.notSynchronized
  subst hsz
  have hD := hD0.self (sz := s.heap.size)
  generalize hAe : va_A [(h0, .inr (0, [.ref qk, .ref qb, .ref qo])), (qk, .inl (ck, 32, .inl fk)), (qb, .inl (cb, 8, .inl fb)), (qo, .inl (co, 8, .inl fo))] s.heap.size = A at hD ⊢
  have hA : ∀ q : Nat, s.heap.size ≤ q → A q := fun q h => by rw [← hAe]; exact Or.inr h
  have hS : va_S A s.heap s.heap [] := va_S.rf
  have hl := lv_entry ([.ref h0, .int kd]) (n := 2) (Nat.le_of_ble_eq_true rfl)
  rw [lg_entry_eq]
  generalize (lg_sl ([.ref h0, .int kd]) ++ List.replicate (2 - (lg_sl ([.ref h0, .int kd])).length) Slot.unset).toArray = ls at hl ⊢
  have hl : lv_has ls 2 [(0, .ref h0), (1, .int kd)] := hl
  have hP : va_P (dC, dI) vwCl [(h0, .inr (0, [.ref qk, .ref qb, .ref qo])), (qk, .inl (ck, 32, .inl fk)), (qb, .inl (cb, 8, .inl fb)), (qo, .inl (co, 8, .inl fo))] s.heap := hP
  refine lv_aload_n hx hb dX0_open_0 rfl (lv_at hl 0 rfl) ?_
  refine lv_iconst (v := 0) hx hb dX0_open_1 (by decide) ?_
  refine lv_iload_n hx hb dX0_open_2 rfl (lv_at hl 1 rfl) ?_
  have hPc := hP.sub (ws' := [(h0, .inr (0, [.ref qk, .ref qb, .ref qo])), (qk, .inl (ck, 32, .inl fk)), (qb, .inl (cb, 8, .inl fb)), (qo, .inl (co, 8, .inl fo))]) [0, 1, 2, 3] rfl
  have hDc := hD.sub (ws' := [(h0, .inr (0, [.ref qk, .ref qb, .ref qo])), (qk, .inl (ck, 32, .inl fk)), (qb, .inl (cb, 8, .inl fb)), (qo, .inl (co, 8, .inl fo))]) [0, 1, 2, 3] (by decide) rfl
  have hKc := hK.sub (tys' := [(ck, .byte), (cb, .byte), (co, .byte)]) [0, 1, 2] rfl
  have hFc := va_free (wc := [(h0, .inr (0, [.ref qk, .ref qb, .ref qo])), (qk, .inl (ck, 32, .inl fk)), (qb, .inl (cb, 8, .inl fb)), (qo, .inl (co, 8, .inl fo))]) hD hS hA [0, 1, 2, 3] rfl
  refine va_callv (va_runV (As := [.int 0, .int kd]) (rest := []) ⟨hx, hb, hml, hown, hts⟩ (metX0_run l dC dI h0 qk qb qo ck cb co fk fb fo 0 kd (by decide) s.heap.size) (cwV 2 hts (lw_V q65 q67 qs0 q17 q68) rfl rfl rfl (by decide +kernel) ⟨Nat.le_of_ble_eq_true rfl, Nat.le_of_ble_eq_true rfl⟩) ⟨fun a U g mk q => by obtain ⟨q0, q1, qP, qK, qD, qF⟩ := q; exact ⟨q0, q1, qP, va_K.moved (u := U) (U := U.calling g mk a) (Vm.Alike.refl U.vm) qK, qD, tk_FF.moved (u := U) (U := U.calling g mk a) (Vm.Alike.refl U.vm) qF⟩, va_recv hK hP (ci := 0) (q0 := 0) rfl rfl, fun U hU hW => ⟨rfl, by rw [hU], by rw [hU]; exact hPc, va_K.moved hW.alike hKc, hDc.weaken (fun _ _ _ _ => trivial), tk_FF.moved hW.alike hF⟩⟩ rfl rfl hl.1 rfl (lv_room (Nat.le_of_ble_eq_true rfl)) dX0_open_3 ⟨Nat.le_of_ble_eq_true rfl, Nat.le_of_ble_eq_true rfl⟩) hS (fun q _ h => hFc q h) hFc (fun u t H1 locs ht hvm hw hB hzz hk1 hS => ?_)
  obtain ⟨hP1, hK1, hD1⟩ := hB
  rw [ht] at hP1
  obtain ⟨hP, hD⟩ := va_join (wr := []) (w1 := [(h0, .inr (0, [.ref qk, .ref qb, .ref qo])), (qk, .inl (ck, 32, .inl fk)), (qb, .inl (cb, 8, .inl fb)), (qo, .inl (co, 8, .inl u))]) hP hD [0, 1, 2, 3] [] rfl rfl (by decide) (by decide) hk1 hFc hP1 hD1
  generalize H1 = H at hP hS ⊢
  have hP : va_P (dC, dI) vwCl [(h0, .inr (0, [.ref qk, .ref qb, .ref qo])), (qk, .inl (ck, 32, .inl fk)), (qb, .inl (cb, 8, .inl fb)), (qo, .inl (co, 8, .inl u))] H := hP
  have hD : va_D A [(h0, .inr (0, [.ref qk, .ref qb, .ref qo])), (qk, .inl (ck, 32, .inl fk)), (qb, .inl (cb, 8, .inl fb)), (qo, .inl (co, 8, .inl u))] := hD
  refine W.widen (k := 7) (n := 106) (Nat.le_of_ble_eq_true rfl) (Nat.le_of_ble_eq_true rfl) ?_
  have hP9 := hP.sub (ws' := [(h0, .inr (0, [.ref qk, .ref qb, .ref qo])), (qk, .inl (ck, 32, .inl fk)), (qb, .inl (cb, 8, .inl fb)), (qo, .inl (co, 8, .inl u))]) [0, 1, 2, 3] rfl
  have hD9 := hD.sub (ws' := [(h0, .inr (0, [.ref qk, .ref qb, .ref qo])), (qk, .inl (ck, 32, .inl fk)), (qb, .inl (cb, 8, .inl fb)), (qo, .inl (co, 8, .inl u))]) [0, 1, 2, 3] (by decide) rfl
  have hK9 := hK.sub (tys' := [(ck, .byte), (cb, .byte), (co, .byte)]) [0, 1, 2] rfl
  exact W.vret hx hb hr (fun t ht hW => ⟨⟨u, rfl, hw, by rw [ht]; exact hP9, va_K.moved hW.alike hK9, hD9⟩, hS.F ht⟩) hS.2.2 dX0_open_6
end
section
/-! TeaDeskModel -/
set_option maxHeartbeats 4000000 in
set_option maxRecDepth 100000 in
/-- TeaDeskModel() -/
theorem metX1_init (l : Launch) (dC : Nat → ClassId) (dI : Nat → Nat → Nat) (h0 sz : Nat) : Met l yX1_init (ws_ yX1_init cX1_init 1 none) ({ frames := 1, cells := 1, slots := 4, locals := 12 }) (va_Pc [.ref h0] (fun U => U.heap.size = sz ∧ va_P (dC, dI) vwCl [(h0, .inr (1, [.null, .int 0, .int 0, .int 0, .int 0]))] U.heap ∧ va_K (dC, dI) vwCl [] U ∧ va_D (fun _ => True) [(h0, .inr (1, [.null, .int 0, .int 0, .int 0, .int 0]))])) (va_Qv (fun _ : Unit => True) (fun _ t => ∃ (mk : Nat) (cM : ClassId), va_P (dC, dI) vwCl [(h0, .inr (1, [.ref mk, .int 0, .int 0, .int 0, .int 0])), (mk, .inl (cM, 4, .inl (fun _ => 0)))] t.heap ∧ va_K (dC, dI) vwCl [(cM, .int)] t ∧ va_D (va_A [(h0, .inr (1, [.null, .int 0, .int 0, .int 0, .int 0]))] sz) [(h0, .inr (1, [.ref mk, .int 0, .int 0, .int 0, .int 0])), (mk, .inl (cM, 4, .inl (fun _ => 0)))]) (va_A [(h0, .inr (1, [.null, .int 0, .int 0, .int 0, .int 0]))] sz)) 1 4 (va_A [(h0, .inr (1, [.null, .int 0, .int 0, .int 0, .int 0]))] sz) := by
  refine Met.ofW (cc := cX1_init) (maxL := 1) (ret := none) (by decide) rfl ?_
  intro p e s m args below meth c s₁ B hml hv
  obtain ⟨rfl, hsz, hP, hK, hD0⟩ := hv
  have hx := B.exec
  have hb := B.bytes
  have hr := B.returns
  have hts := atoms_spec (ws := ws_ yX1_init cX1_init 1 none) B.pre
  have hts : ∀ w ∈ lw_all, w.before _ s = true := fun w h => hts w (List.mem_cons_of_mem _ h)
  have hown : s.vm.findClass RX1 = some m.cls := findClass_of_methodNamed B.named
  have hlocks := B.notSynchronized
  have hin : meth.name = "<init>" := (name_of_methodNamed B.named B.method).1
  subst hsz
  have hD := hD0.self (sz := s.heap.size)
  generalize hAe : va_A [(h0, .inr (1, [.null, .int 0, .int 0, .int 0, .int 0]))] s.heap.size = A at hD ⊢
  have hA : ∀ q : Nat, s.heap.size ≤ q → A q := fun q h => by rw [← hAe]; exact Or.inr h
  have hS : va_S A s.heap s.heap [] := va_S.rf
  have hl := lv_entry ([.ref h0]) (n := 1) (Nat.le_of_ble_eq_true rfl)
  rw [lg_entry_eq]
  generalize (lg_sl ([.ref h0]) ++ List.replicate (1 - (lg_sl ([.ref h0])).length) Slot.unset).toArray = ls at hl ⊢
  have hl : lv_has ls 1 [(0, .ref h0)] := hl
  have hP : va_P (dC, dI) vwCl [(h0, .inr (1, [.null, .int 0, .int 0, .int 0, .int 0]))] s.heap := hP
  refine lv_aload_n hx hb dX1_init_0 rfl (lv_at hl 0 rfl) ?_
  refine W.objInit hx hb hown (hts _ q369) (hts _ q37) (hts _ q38) rfl (by rw [hml]; exact hl.1) rfl dX1_init_1 (Nat.le_of_ble_eq_true rfl) (Nat.le_of_ble_eq_true rfl) ?_
  refine W.eq (g2 := F0 m 4 ls []) rfl ?_
  refine lv_aload_n hx hb dX1_init_4 rfl (lv_at hl 0 rfl) ?_
  refine lv_iconst (v := 4) hx hb dX1_init_5 (by decide) ?_
  refine va_newa (atype := .int) (ty := .int) (N' := 4) (a0 := (4, .inl (fun _ => 0))) hx hb (hts _ q119) rfl hK hP hD hS hA (fun _ => rfl) (by decide) (by decide) (Nat.le_of_ble_eq_true rfl) (Nat.le_of_ble_eq_true rfl) (Nat.le_of_ble_eq_true rfl) dX1_init_6 (fun mk cM H hK hP hD hS => ?_)
  have hP : va_P (dC, dI) vwCl [(h0, .inr (1, [.null, .int 0, .int 0, .int 0, .int 0])), (mk, .inl (cM, 4, .inl (fun _ => 0)))] H := hP
  have hD : va_D A [(h0, .inr (1, [.null, .int 0, .int 0, .int 0, .int 0])), (mk, .inl (cM, 4, .inl (fun _ => 0)))] := hD
  have hK : va_K (dC, dI) vwCl [(cM, .int)] s := hK
  refine va_putF (D := (dC, dI)) (ci := 1) (v := .ref mk) (ty := .array .int) (C := RX1) (T := TX1) (N := 5) hx hb hts in_X1 tyX1 tyX1_ok nmX1 hown hK hP hD hS 0 rfl rfl 0 (by decide) (hts _ q370) (fun _ h9 => h9) rfl hin rfl (by decide +kernel) rfl rfl (Nat.le_of_ble_eq_true rfl) dX1_init_8 (fun H locs hP hD hS => ?_)
  have hP : va_P (dC, dI) vwCl [(h0, .inr (1, [.ref mk, .int 0, .int 0, .int 0, .int 0])), (mk, .inl (cM, 4, .inl (fun _ => 0)))] H := hP
  have hD : va_D A [(h0, .inr (1, [.ref mk, .int 0, .int 0, .int 0, .int 0])), (mk, .inl (cM, 4, .inl (fun _ => 0)))] := hD
  have hP9 := hP.sub (ws' := [(h0, .inr (1, [.ref mk, .int 0, .int 0, .int 0, .int 0])), (mk, .inl (cM, 4, .inl (fun _ => 0)))]) [0, 1] rfl
  have hD9 := hD.sub (ws' := [(h0, .inr (1, [.ref mk, .int 0, .int 0, .int 0, .int 0])), (mk, .inl (cM, 4, .inl (fun _ => 0)))]) [0, 1] (by decide) rfl
  have hK9 := hK.sub (tys' := [(cM, .int)]) [0] rfl
  exact W.vret hx hb hr (fun t ht hW => ⟨⟨(), rfl, trivial, mk, cM, by rw [ht]; exact hP9, va_K.moved hW.alike hK9, hD9⟩, hS.F ht⟩) hS.2.2 dX1_init_11
set_option maxHeartbeats 4000000 in
set_option maxRecDepth 100000 in
/-- half a cycle of TEA -/
theorem metX1_tea (l : Launch) (dC : Nat → ClassId) (dI : Nat → Nat → Nat) (h0 mk : Nat) (cM : ClassId) (g : Nat → Int32) (lf rt ol oo : Int32) (v sm : Int32) (j : Nat) (hj : j + 1 < 4) : Met l yX1_tea (ws_ yX1_tea cX1_tea 4 (some .int)) ({ frames := 0, cells := 0, slots := 0, locals := 0 }) (va_Pc [.ref h0, .int v, .int sm, .int (nI j)] (fun U => va_P (dC, dI) vwCl [(h0, .inr (1, [.ref mk, .int lf, .int rt, .int ol, .int oo])), (mk, .inl (cM, 4, .inl g))] U.heap ∧ va_K (dC, dI) vwCl [(cM, .int)] U)) (vp_Si (fun r => r = tq_h v sm (g j) (g (j + 1)))) 0 0 (fun _ => False) := by
  refine Met.ofW (cc := cX1_tea) (maxL := 4) (ret := (some .int)) (by decide) rfl ?_
  intro p e s m args below meth c s₁ B hml hv
  obtain ⟨rfl, hP, hK⟩ := hv
  have hx := B.exec
  have hb := B.bytes
  have hr := B.returns
  have hts := atoms_spec (ws := ws_ yX1_tea cX1_tea 4 (some .int)) B.pre
  have hts : ∀ w ∈ lw_all, w.before _ s = true := fun w h => hts w (List.mem_cons_of_mem _ h)
  have hown : s.vm.findClass RX1 = some m.cls := findClass_of_methodNamed B.named
  have hlocks := B.notSynchronized
  have hl := lv_entry ([.ref h0, .int v, .int sm, .int (nI j)]) (n := 4) (Nat.le_of_ble_eq_true rfl)
  rw [lg_entry_eq]
  generalize (lg_sl ([.ref h0, .int v, .int sm, .int (nI j)]) ++ List.replicate (4 - (lg_sl ([.ref h0, .int v, .int sm, .int (nI j)])).length) Slot.unset).toArray = ls at hl ⊢
  have hl : lv_has ls 4 [(0, .ref h0), (1, .int v), (2, .int sm), (3, .int (nI j))] := hl
  refine lv_iload_n hx hb dX1_tea_0 rfl (lv_at hl 1 rfl) ?_
  refine lv_iconst (v := 4) hx hb dX1_tea_1 (by decide) ?_
  refine lv_ishl hx hb dX1_tea_2 ?_
  refine lv_aload_n hx hb dX1_tea_3 rfl (lv_at hl 0 rfl) ?_
  refine va_get (D := (dC, dI)) (ci := 1) (v := .ref mk) (C := RX1) (T := TX1) (N := 5) hx hb hts in_X1 hown hK hP 0 rfl rfl 0 (by decide) (hts _ q370) (fun _ h9 => h9) rfl dX1_tea_4 ?_
  refine lv_iload_n hx hb dX1_tea_7 rfl (lv_at hl 3 rfl) ?_
  refine tk_ild hx hb hK hP 1 0 rfl rfl (j) (by omega) (by omega) dX1_tea_8 ?_
  refine lv_iadd hx hb dX1_tea_9 ?_
  refine lv_iload_n hx hb dX1_tea_10 rfl (lv_at hl 1 rfl) ?_
  refine lv_iload_n hx hb dX1_tea_11 rfl (lv_at hl 2 rfl) ?_
  refine lv_iadd hx hb dX1_tea_12 ?_
  refine lv_ixor hx hb dX1_tea_13 ?_
  refine lv_iload_n hx hb dX1_tea_14 rfl (lv_at hl 1 rfl) ?_
  refine lv_iconst (v := 5) hx hb dX1_tea_15 (by decide) ?_
  refine lv_iushr (v := (v.toUInt32 >>> ((5 : Int32).toUInt32 &&& Int32.toUInt32 31)).toInt32) hx hb dX1_tea_16 rfl ?_
  refine lv_aload_n hx hb dX1_tea_17 rfl (lv_at hl 0 rfl) ?_
  refine va_get (D := (dC, dI)) (ci := 1) (v := .ref mk) (C := RX1) (T := TX1) (N := 5) hx hb hts in_X1 hown hK hP 0 rfl rfl 0 (by decide) (hts _ q370) (fun _ h9 => h9) rfl dX1_tea_18 ?_
  refine lv_iload_n hx hb dX1_tea_21 rfl (lv_at hl 3 rfl) ?_
  refine lv_iconst (v := 1) hx hb dX1_tea_22 (by decide) ?_
  refine lv_iadd hx hb dX1_tea_23 ?_
  refine tk_as (nI (j + 1)) (nI_1 j) ?_
  refine tk_ild hx hb hK hP 1 0 rfl rfl (j + 1) (by omega) (by omega) dX1_tea_24 ?_
  refine lv_iadd hx hb dX1_tea_25 ?_
  refine lv_ixor hx hb dX1_tea_26 ?_
  exact W.iret hx hb hr (fun t ht hW => ⟨_, rfl, rfl, ht⟩) tk_nil dX1_tea_27
set_option maxHeartbeats 4000000 in
set_option maxRecDepth 100000 in
/-- half a cycle of XTEA -/
theorem metX1_xtea (l : Launch) (dC : Nat → ClassId) (dI : Nat → Nat → Nat) (h0 mk : Nat) (cM : ClassId) (g : Nat → Int32) (lf rt ol oo : Int32) (v sm k : Int32) (hk : vp_in k 4) : Met l yX1_xtea (ws_ yX1_xtea cX1_xtea 4 (some .int)) ({ frames := 0, cells := 0, slots := 0, locals := 0 }) (va_Pc [.ref h0, .int v, .int sm, .int k] (fun U => va_P (dC, dI) vwCl [(h0, .inr (1, [.ref mk, .int lf, .int rt, .int ol, .int oo])), (mk, .inl (cM, 4, .inl g))] U.heap ∧ va_K (dC, dI) vwCl [(cM, .int)] U)) (vp_Si (fun r => r = tq_x v (sm + g k.toNatClampNeg))) 0 0 (fun _ => False) := by
  refine Met.ofW (cc := cX1_xtea) (maxL := 4) (ret := (some .int)) (by decide) rfl ?_
  intro p e s m args below meth c s₁ B hml hv
  obtain ⟨rfl, hP, hK⟩ := hv
  have hx := B.exec
  have hb := B.bytes
  have hr := B.returns
  have hts := atoms_spec (ws := ws_ yX1_xtea cX1_xtea 4 (some .int)) B.pre
  have hts : ∀ w ∈ lw_all, w.before _ s = true := fun w h => hts w (List.mem_cons_of_mem _ h)
  have hown : s.vm.findClass RX1 = some m.cls := findClass_of_methodNamed B.named
  have hlocks := B.notSynchronized
  have hl := lv_entry ([.ref h0, .int v, .int sm, .int k]) (n := 4) (Nat.le_of_ble_eq_true rfl)
  rw [lg_entry_eq]
  generalize (lg_sl ([.ref h0, .int v, .int sm, .int k]) ++ List.replicate (4 - (lg_sl ([.ref h0, .int v, .int sm, .int k])).length) Slot.unset).toArray = ls at hl ⊢
  have hl : lv_has ls 4 [(0, .ref h0), (1, .int v), (2, .int sm), (3, .int k)] := hl
  refine lv_iload_n hx hb dX1_xtea_0 rfl (lv_at hl 1 rfl) ?_
  refine lv_iconst (v := 4) hx hb dX1_xtea_1 (by decide) ?_
  refine lv_ishl hx hb dX1_xtea_2 ?_
  refine lv_iload_n hx hb dX1_xtea_3 rfl (lv_at hl 1 rfl) ?_
  refine lv_iconst (v := 5) hx hb dX1_xtea_4 (by decide) ?_
  refine lv_iushr (v := (v.toUInt32 >>> ((5 : Int32).toUInt32 &&& Int32.toUInt32 31)).toInt32) hx hb dX1_xtea_5 rfl ?_
  refine lv_ixor hx hb dX1_xtea_6 ?_
  refine lv_iload_n hx hb dX1_xtea_7 rfl (lv_at hl 1 rfl) ?_
  refine lv_iadd hx hb dX1_xtea_8 ?_
  refine lv_iload_n hx hb dX1_xtea_9 rfl (lv_at hl 2 rfl) ?_
  refine lv_aload_n hx hb dX1_xtea_10 rfl (lv_at hl 0 rfl) ?_
  refine va_get (D := (dC, dI)) (ci := 1) (v := .ref mk) (C := RX1) (T := TX1) (N := 5) hx hb hts in_X1 hown hK hP 0 rfl rfl 0 (by decide) (hts _ q370) (fun _ h9 => h9) rfl dX1_xtea_11 ?_
  refine lv_iload_n hx hb dX1_xtea_14 rfl (lv_at hl 3 rfl) ?_
  refine va_iald hx hb hK hP 1 0 rfl rfl (hk) dX1_xtea_15 ?_
  refine lv_iadd hx hb dX1_xtea_16 ?_
  refine lv_ixor hx hb dX1_xtea_17 ?_
  exact W.iret hx hb hr (fun t ht hW => ⟨_, rfl, rfl, ht⟩) tk_nil dX1_xtea_18
set_option maxHeartbeats 4000000 in
set_option maxRecDepth 100000 in
/-- the cycles: n are left -/
theorem lpX1_locksT {p : Program} {l : Launch} {e : Env} {R : Room} {s : State} {m : MethodId} {args : Array Value} {below : List Frame} {meth : Method} {c : Code} {cells slots : Nat} {Q : State → Prop} {dC : Nat → ClassId} {dI : Nat → Nat → Nat} {H : Heap} {locs : List Loc} {h0 mk : Nat} {cM : ClassId} {g : Nat → Int32} {lf rt ol oo nw X Y : Int32} (hx : p.tables.exec = Jvm.exec) (hb : c.code = cX1_locks) (hml : c.maxLocals = 7) (hown : s.vm.findClass RX1 = some m.cls) (hts : ∀ w ∈ lw_all, w.before args s = true) (hR : 1 ≤ R.frames ∧ 23 ≤ R.locals) (hC : cells ≤ R.cells ∧ slots ≤ R.slots) (hnw : nw = 0) (hK : va_K (dC, dI) vwCl [(cM, .int)] s) (hP : va_P (dC, dI) vwCl [(h0, .inr (1, [.ref mk, .int lf, .int rt, .int ol, .int oo])), (mk, .inl (cM, 4, .inl g))] H) (kk : ∀ ls : Array Slot, lv_has ls 7 [(0, .ref h0), (3, .int X), (4, .int Y)] → W p l e R s m args below meth c H locs cells slots Q (F0 m 101 ls [])) :
    ∀ (n i : Nat) (sm x y : Int32), i + n = 32 → tq_tE (g 0) (g 1) (g 2) (g 3) n sm x y = (X, Y) → ∀ ls : Array Slot, lv_has ls 7 [(0, .ref h0), (1, .int nw), (2, .int sm), (3, .int x), (4, .int y), (5, .int (nI i))] → W p l e R s m args below meth c H locs cells slots Q (F0 m 16 ls []) := by
  intro n
  induction n with
  | zero =>
    intro i sm x y hi hv ls hl
    obtain rfl : i = 32 := by omega
    have hv : (x, y) = (X, Y) := hv
    obtain ⟨rfl, rfl⟩ := Prod.mk.inj hv
    refine lv_iload hx hb dX1_locks_16 (lv_at hl 5 rfl) ?_
    refine lv_bipush (v := 32) hx hb dX1_locks_18 (by decide) ?_
    exact lv_icmp_ge (tgt := 101) hx hb dX1_locks_20 (by decide) (fun _ => kk ls (lv_sub hl [0, 3, 4] rfl)) (fun h9 => absurd (by decide +kernel) h9)
  | succ n ih =>
    intro i sm x y hi hv ls hl
    refine lv_iload hx hb dX1_locks_16 (lv_at hl 5 rfl) ?_
    refine lv_bipush (v := 32) hx hb dX1_locks_18 (by decide) ?_
    refine lv_icmp_ge (tgt := 101) hx hb dX1_locks_20 (by decide) (fun h9 => absurd h9 (nI_ge (a := i) (b := 32) (by omega) (by omega))) (fun _ => ?_)
    refine lv_iload_n hx hb dX1_locks_23 rfl (lv_at hl 2 rfl) ?_
    refine lv_ldc (v := -1640531527) hx hb hown (hts _ q402) dX1_locks_24 ?_
    refine lv_iadd hx hb dX1_locks_26 ?_
    refine lv_topi (fun s1 es1 => ?_)
    refine lv_istore (lv' := [(6, .int s1), (0, .ref h0), (1, .int nw), (2, .int sm), (3, .int x), (4, .int y), (5, .int (nI i))]) hx hb dX1_locks_27 hl (by decide) rfl (fun ls hl => ?_)
    refine lv_iload_n hx hb dX1_locks_29 rfl (lv_at hl 4 rfl) ?_
    refine lv_iload_n hx hb dX1_locks_30 rfl (lv_at hl 2 rfl) ?_
    refine lv_if_eq (tgt := 47) hx hb dX1_locks_31 (by decide) (fun _ => ?_) (fun h9 => absurd hnw h9)
    refine lv_aload_n hx hb dX1_locks_47 rfl (lv_at hl 1 rfl) ?_
    refine lv_iload hx hb dX1_locks_48 (lv_at hl 5 rfl) ?_
    refine lv_iload hx hb dX1_locks_50 (lv_at hl 0 rfl) ?_
    refine lv_iconst (v := 0) hx hb dX1_locks_52 (by decide) ?_
    refine tk_as (nI 0) (nI_0.symm) ?_
    have hPc := hP.sub (ws' := [(h0, .inr (1, [.ref mk, .int lf, .int rt, .int ol, .int oo])), (mk, .inl (cM, 4, .inl g))]) [0, 1] rfl
    have hKc := hK.sub (tys' := [(cM, .int)]) [0] rfl
    refine vp_callSi (W.runV (As := [.int y, .int s1, .int (nI 0)]) (rest := [.int x]) ⟨hx, hb, hml, hown, hts⟩ (metX1_tea l dC dI h0 mk cM g lf rt ol oo y s1 0 (by omega)) (cwV 3 hts (lw_V q407 q409 qs14 q18 q410) rfl rfl rfl (by decide +kernel) hR) ⟨fun a U g mk q => by obtain ⟨q0, qP, qK⟩ := q; exact ⟨q0, qP, va_K.moved (u := U) (U := U.calling g mk a) (Vm.Alike.refl U.vm) qK⟩, va_recv hK hP (ci := 1) (q0 := 0) rfl rfl, fun U hU hW => ⟨rfl, by rw [hU]; exact hPc, va_K.moved hW.alike hKc⟩⟩ rfl rfl hl.1 rfl (lv_room (Nat.le_of_ble_eq_true rfl)) dX1_locks_53 hC) (fun z1 hz1 => ?_)
    have ez1 : z1 = tq_h y s1 (g 0) (g 1) := hz1
    subst ez1
    refine lv_iadd hx hb dX1_locks_56 ?_
    refine lv_topi (fun x1 ex1 => ?_)
    refine lv_istore_n (lv' := [(3, .int x1), (6, .int s1), (0, .ref h0), (1, .int nw), (2, .int sm), (4, .int y), (5, .int (nI i))]) hx hb dX1_locks_57 rfl hl (by decide) rfl (fun ls hl => ?_)
    refine lv_iload hx hb dX1_locks_58 (lv_at hl 5 rfl) ?_
    refine lv_iload_n hx hb dX1_locks_60 rfl (lv_at hl 3 rfl) ?_
    refine lv_if_eq (tgt := 81) hx hb dX1_locks_61 (by decide) (fun _ => ?_) (fun h9 => absurd hnw h9)
    refine lv_aload_n hx hb dX1_locks_81 rfl (lv_at hl 2 rfl) ?_
    refine lv_iload_n hx hb dX1_locks_82 rfl (lv_at hl 0 rfl) ?_
    refine lv_iload hx hb dX1_locks_83 (lv_at hl 1 rfl) ?_
    refine lv_iconst (v := 2) hx hb dX1_locks_85 (by decide) ?_
    refine tk_as (nI 2) (rfl) ?_
    have hPc := hP.sub (ws' := [(h0, .inr (1, [.ref mk, .int lf, .int rt, .int ol, .int oo])), (mk, .inl (cM, 4, .inl g))]) [0, 1] rfl
    have hKc := hK.sub (tys' := [(cM, .int)]) [0] rfl
    refine vp_callSi (W.runV (As := [.int x1, .int s1, .int (nI 2)]) (rest := [.int y]) ⟨hx, hb, hml, hown, hts⟩ (metX1_tea l dC dI h0 mk cM g lf rt ol oo x1 s1 2 (by omega)) (cwV 3 hts (lw_V q407 q409 qs14 q18 q410) rfl rfl rfl (by decide +kernel) hR) ⟨fun a U g mk q => by obtain ⟨q0, qP, qK⟩ := q; exact ⟨q0, qP, va_K.moved (u := U) (U := U.calling g mk a) (Vm.Alike.refl U.vm) qK⟩, va_recv hK hP (ci := 1) (q0 := 0) rfl rfl, fun U hU hW => ⟨rfl, by rw [hU]; exact hPc, va_K.moved hW.alike hKc⟩⟩ rfl rfl hl.1 rfl (lv_room (Nat.le_of_ble_eq_true rfl)) dX1_locks_86 hC) (fun z2 hz2 => ?_)
    have ez2 : z2 = tq_h x1 s1 (g 2) (g 3) := hz2
    subst ez2
    refine lv_iadd hx hb dX1_locks_89 ?_
    refine lv_topi (fun y1 ey1 => ?_)
    refine lv_istore (lv' := [(4, .int y1), (3, .int x1), (6, .int s1), (0, .ref h0), (1, .int nw), (2, .int sm), (5, .int (nI i))]) hx hb dX1_locks_90 hl (by decide) rfl (fun ls hl => ?_)
    refine lv_iload hx hb dX1_locks_92 (lv_at hl 2 rfl) ?_
    refine lv_istore_n (lv' := [(2, .int s1), (4, .int y1), (3, .int x1), (6, .int s1), (0, .ref h0), (1, .int nw), (5, .int (nI i))]) hx hb dX1_locks_94 rfl hl (by decide) rfl (fun ls hl => ?_)
    refine lv_iinc (v := nI (i + 1)) (lv' := [(5, .int (nI (i + 1))), (2, .int s1), (4, .int y1), (3, .int x1), (6, .int s1), (0, .ref h0), (1, .int nw)]) hx hb dX1_locks_95 hl (k := 6) rfl (tk_inc i) (by decide) rfl (fun ls hl => ?_)
    refine lv_goto (tgt := 16) hx hb dX1_locks_98 (by decide) ?_
    exact ih (i + 1) s1 x1 y1 (by omega) (by rw [← hv, ey1, ex1, es1]; rfl) ls (lv_sub hl [5, 6, 1, 3, 2, 0] rfl)
set_option maxHeartbeats 4000000 in
set_option maxRecDepth 100000 in
/-- the cycles: n are left -/
theorem lpX1_locksX {p : Program} {l : Launch} {e : Env} {R : Room} {s : State} {m : MethodId} {args : Array Value} {below : List Frame} {meth : Method} {c : Code} {cells slots : Nat} {Q : State → Prop} {dC : Nat → ClassId} {dI : Nat → Nat → Nat} {H : Heap} {locs : List Loc} {h0 mk : Nat} {cM : ClassId} {g : Nat → Int32} {lf rt ol oo nw X Y : Int32} (hx : p.tables.exec = Jvm.exec) (hb : c.code = cX1_locks) (hml : c.maxLocals = 7) (hown : s.vm.findClass RX1 = some m.cls) (hts : ∀ w ∈ lw_all, w.before args s = true) (hR : 1 ≤ R.frames ∧ 23 ≤ R.locals) (hC : cells ≤ R.cells ∧ slots ≤ R.slots) (hnw : ¬ nw = 0) (hK : va_K (dC, dI) vwCl [(cM, .int)] s) (hP : va_P (dC, dI) vwCl [(h0, .inr (1, [.ref mk, .int lf, .int rt, .int ol, .int oo])), (mk, .inl (cM, 4, .inl g))] H) (kk : ∀ ls : Array Slot, lv_has ls 7 [(0, .ref h0), (3, .int X), (4, .int Y)] → W p l e R s m args below meth c H locs cells slots Q (F0 m 101 ls [])) :
    ∀ (n i : Nat) (sm x y : Int32), i + n = 32 → tq_xE g n sm x y = (X, Y) → ∀ ls : Array Slot, lv_has ls 7 [(0, .ref h0), (1, .int nw), (2, .int sm), (3, .int x), (4, .int y), (5, .int (nI i))] → W p l e R s m args below meth c H locs cells slots Q (F0 m 16 ls []) := by
  intro n
  induction n with
  | zero =>
    intro i sm x y hi hv ls hl
    obtain rfl : i = 32 := by omega
    have hv : (x, y) = (X, Y) := hv
    obtain ⟨rfl, rfl⟩ := Prod.mk.inj hv
    refine lv_iload hx hb dX1_locks_16 (lv_at hl 5 rfl) ?_
    refine lv_bipush (v := 32) hx hb dX1_locks_18 (by decide) ?_
    exact lv_icmp_ge (tgt := 101) hx hb dX1_locks_20 (by decide) (fun _ => kk ls (lv_sub hl [0, 3, 4] rfl)) (fun h9 => absurd (by decide +kernel) h9)
  | succ n ih =>
    intro i sm x y hi hv ls hl
    refine lv_iload hx hb dX1_locks_16 (lv_at hl 5 rfl) ?_
    refine lv_bipush (v := 32) hx hb dX1_locks_18 (by decide) ?_
    refine lv_icmp_ge (tgt := 101) hx hb dX1_locks_20 (by decide) (fun h9 => absurd h9 (nI_ge (a := i) (b := 32) (by omega) (by omega))) (fun _ => ?_)
    refine lv_iload_n hx hb dX1_locks_23 rfl (lv_at hl 2 rfl) ?_
    refine lv_ldc (v := -1640531527) hx hb hown (hts _ q402) dX1_locks_24 ?_
    refine lv_iadd hx hb dX1_locks_26 ?_
    refine lv_topi (fun s1 es1 => ?_)
    refine lv_istore (lv' := [(6, .int s1), (0, .ref h0), (1, .int nw), (2, .int sm), (3, .int x), (4, .int y), (5, .int (nI i))]) hx hb dX1_locks_27 hl (by decide) rfl (fun ls hl => ?_)
    refine lv_iload_n hx hb dX1_locks_29 rfl (lv_at hl 4 rfl) ?_
    refine lv_iload_n hx hb dX1_locks_30 rfl (lv_at hl 2 rfl) ?_
    refine lv_if_eq (tgt := 47) hx hb dX1_locks_31 (by decide) (fun h9 => absurd h9 hnw) (fun _ => ?_)
    refine lv_aload_n hx hb dX1_locks_34 rfl (lv_at hl 1 rfl) ?_
    refine lv_iload hx hb dX1_locks_35 (lv_at hl 5 rfl) ?_
    refine lv_iload_n hx hb dX1_locks_37 rfl (lv_at hl 3 rfl) ?_
    refine lv_iload_n hx hb dX1_locks_38 rfl (lv_at hl 3 rfl) ?_
    refine lv_iconst (v := 3) hx hb dX1_locks_39 (by decide) ?_
    refine lv_iand hx hb dX1_locks_40 ?_
    have hPc := hP.sub (ws' := [(h0, .inr (1, [.ref mk, .int lf, .int rt, .int ol, .int oo])), (mk, .inl (cM, 4, .inl g))]) [0, 1] rfl
    have hKc := hK.sub (tys' := [(cM, .int)]) [0] rfl
    refine vp_callSi (W.runV (As := [.int y, .int sm, .int (sm &&& 3)]) (rest := [.int x]) ⟨hx, hb, hml, hown, hts⟩ (metX1_xtea l dC dI h0 mk cM g lf rt ol oo y sm (sm &&& 3) (tq_3 _)) (cwV 3 hts (lw_V q403 q405 qs13 q18 q406) rfl rfl rfl (by decide +kernel) hR) ⟨fun a U g mk q => by obtain ⟨q0, qP, qK⟩ := q; exact ⟨q0, qP, va_K.moved (u := U) (U := U.calling g mk a) (Vm.Alike.refl U.vm) qK⟩, va_recv hK hP (ci := 1) (q0 := 0) rfl rfl, fun U hU hW => ⟨rfl, by rw [hU]; exact hPc, va_K.moved hW.alike hKc⟩⟩ rfl rfl hl.1 rfl (lv_room (Nat.le_of_ble_eq_true rfl)) dX1_locks_41 hC) (fun z1 hz1 => ?_)
    have ez1 : z1 = tq_x y (tq_kE g sm) := hz1
    subst ez1
    refine lv_goto (tgt := 56) hx hb dX1_locks_44 (by decide) ?_
    refine lv_iadd hx hb dX1_locks_56 ?_
    refine lv_topi (fun x1 ex1 => ?_)
    refine lv_istore_n (lv' := [(3, .int x1), (6, .int s1), (0, .ref h0), (1, .int nw), (2, .int sm), (4, .int y), (5, .int (nI i))]) hx hb dX1_locks_57 rfl hl (by decide) rfl (fun ls hl => ?_)
    refine lv_iload hx hb dX1_locks_58 (lv_at hl 5 rfl) ?_
    refine lv_iload_n hx hb dX1_locks_60 rfl (lv_at hl 3 rfl) ?_
    refine lv_if_eq (tgt := 81) hx hb dX1_locks_61 (by decide) (fun h9 => absurd h9 hnw) (fun _ => ?_)
    refine lv_aload_n hx hb dX1_locks_64 rfl (lv_at hl 2 rfl) ?_
    refine lv_iload_n hx hb dX1_locks_65 rfl (lv_at hl 0 rfl) ?_
    refine lv_iload hx hb dX1_locks_66 (lv_at hl 1 rfl) ?_
    refine lv_iload hx hb dX1_locks_68 (lv_at hl 1 rfl) ?_
    refine lv_bipush (v := 11) hx hb dX1_locks_70 (by decide) ?_
    refine lv_iushr (v := (s1.toUInt32 >>> ((11 : Int32).toUInt32 &&& Int32.toUInt32 31)).toInt32) hx hb dX1_locks_72 rfl ?_
    refine lv_iconst (v := 3) hx hb dX1_locks_73 (by decide) ?_
    refine lv_iand hx hb dX1_locks_74 ?_
    have hPc := hP.sub (ws' := [(h0, .inr (1, [.ref mk, .int lf, .int rt, .int ol, .int oo])), (mk, .inl (cM, 4, .inl g))]) [0, 1] rfl
    have hKc := hK.sub (tys' := [(cM, .int)]) [0] rfl
    refine vp_callSi (W.runV (As := [.int x1, .int s1, .int (((s1.toUInt32 >>> ((11 : Int32).toUInt32 &&& Int32.toUInt32 31)).toInt32) &&& 3)]) (rest := [.int y]) ⟨hx, hb, hml, hown, hts⟩ (metX1_xtea l dC dI h0 mk cM g lf rt ol oo x1 s1 (((s1.toUInt32 >>> ((11 : Int32).toUInt32 &&& Int32.toUInt32 31)).toInt32) &&& 3) (tq_3 _)) (cwV 3 hts (lw_V q403 q405 qs13 q18 q406) rfl rfl rfl (by decide +kernel) hR) ⟨fun a U g mk q => by obtain ⟨q0, qP, qK⟩ := q; exact ⟨q0, qP, va_K.moved (u := U) (U := U.calling g mk a) (Vm.Alike.refl U.vm) qK⟩, va_recv hK hP (ci := 1) (q0 := 0) rfl rfl, fun U hU hW => ⟨rfl, by rw [hU]; exact hPc, va_K.moved hW.alike hKc⟩⟩ rfl rfl hl.1 rfl (lv_room (Nat.le_of_ble_eq_true rfl)) dX1_locks_75 hC) (fun z2 hz2 => ?_)
    have ez2 : z2 = tq_x x1 (tq_kO g s1) := hz2
    subst ez2
    refine lv_goto (tgt := 89) hx hb dX1_locks_78 (by decide) ?_
    refine lv_iadd hx hb dX1_locks_89 ?_
    refine lv_topi (fun y1 ey1 => ?_)
    refine lv_istore (lv' := [(4, .int y1), (3, .int x1), (6, .int s1), (0, .ref h0), (1, .int nw), (2, .int sm), (5, .int (nI i))]) hx hb dX1_locks_90 hl (by decide) rfl (fun ls hl => ?_)
    refine lv_iload hx hb dX1_locks_92 (lv_at hl 2 rfl) ?_
    refine lv_istore_n (lv' := [(2, .int s1), (4, .int y1), (3, .int x1), (6, .int s1), (0, .ref h0), (1, .int nw), (5, .int (nI i))]) hx hb dX1_locks_94 rfl hl (by decide) rfl (fun ls hl => ?_)
    refine lv_iinc (v := nI (i + 1)) (lv' := [(5, .int (nI (i + 1))), (2, .int s1), (4, .int y1), (3, .int x1), (6, .int s1), (0, .ref h0), (1, .int nw)]) hx hb dX1_locks_95 hl (k := 6) rfl (tk_inc i) (by decide) rfl (fun ls hl => ?_)
    refine lv_goto (tgt := 16) hx hb dX1_locks_98 (by decide) ?_
    exact ih (i + 1) s1 x1 y1 (by omega) (by rw [← hv, ey1, ex1, es1]; rfl) ls (lv_sub hl [5, 6, 1, 3, 2, 0] rfl)
set_option maxHeartbeats 4000000 in
set_option maxRecDepth 100000 in
/-- the cycles: n are left -/
theorem lpX1_opensT {p : Program} {l : Launch} {e : Env} {R : Room} {s : State} {m : MethodId} {args : Array Value} {below : List Frame} {meth : Method} {c : Code} {cells slots : Nat} {Q : State → Prop} {dC : Nat → ClassId} {dI : Nat → Nat → Nat} {H : Heap} {locs : List Loc} {h0 mk : Nat} {cM : ClassId} {g : Nat → Int32} {lf rt ol oo nw X Y : Int32} (hx : p.tables.exec = Jvm.exec) (hb : c.code = cX1_opens) (hml : c.maxLocals = 7) (hown : s.vm.findClass RX1 = some m.cls) (hts : ∀ w ∈ lw_all, w.before args s = true) (hR : 1 ≤ R.frames ∧ 23 ≤ R.locals) (hC : cells ≤ R.cells ∧ slots ≤ R.slots) (hnw : nw = 0) (hK : va_K (dC, dI) vwCl [(cM, .int)] s) (hP : va_P (dC, dI) vwCl [(h0, .inr (1, [.ref mk, .int lf, .int rt, .int ol, .int oo])), (mk, .inl (cM, 4, .inl g))] H) (kk : ∀ ls : Array Slot, lv_has ls 7 [(0, .ref h0), (3, .int X), (4, .int Y)] → W p l e R s m args below meth c H locs cells slots Q (F0 m 100 ls [])) :
    ∀ (n i : Nat) (sm x y : Int32), i + n = 32 → tq_tD (g 0) (g 1) (g 2) (g 3) n sm x y = (X, Y) → ∀ ls : Array Slot, lv_has ls 7 [(0, .ref h0), (1, .int nw), (2, .int sm), (3, .int x), (4, .int y), (5, .int (nI i))] → W p l e R s m args below meth c H locs cells slots Q (F0 m 17 ls []) := by
  intro n
  induction n with
  | zero =>
    intro i sm x y hi hv ls hl
    obtain rfl : i = 32 := by omega
    have hv : (x, y) = (X, Y) := hv
    obtain ⟨rfl, rfl⟩ := Prod.mk.inj hv
    refine lv_iload hx hb dX1_opens_17 (lv_at hl 5 rfl) ?_
    refine lv_bipush (v := 32) hx hb dX1_opens_19 (by decide) ?_
    exact lv_icmp_ge (tgt := 100) hx hb dX1_opens_21 (by decide) (fun _ => kk ls (lv_sub hl [0, 3, 4] rfl)) (fun h9 => absurd (by decide +kernel) h9)
  | succ n ih =>
    intro i sm x y hi hv ls hl
    refine lv_iload hx hb dX1_opens_17 (lv_at hl 5 rfl) ?_
    refine lv_bipush (v := 32) hx hb dX1_opens_19 (by decide) ?_
    refine lv_icmp_ge (tgt := 100) hx hb dX1_opens_21 (by decide) (fun h9 => absurd h9 (nI_ge (a := i) (b := 32) (by omega) (by omega))) (fun _ => ?_)
    refine lv_iload_n hx hb dX1_opens_24 rfl (lv_at hl 2 rfl) ?_
    refine lv_ldc (v := -1640531527) hx hb hown (hts _ q402) dX1_opens_25 ?_
    refine lv_isub hx hb dX1_opens_27 ?_
    refine lv_topi (fun s1 es1 => ?_)
    refine lv_istore (lv' := [(6, .int s1), (0, .ref h0), (1, .int nw), (2, .int sm), (3, .int x), (4, .int y), (5, .int (nI i))]) hx hb dX1_opens_28 hl (by decide) rfl (fun ls hl => ?_)
    refine lv_iload hx hb dX1_opens_30 (lv_at hl 5 rfl) ?_
    refine lv_iload_n hx hb dX1_opens_32 rfl (lv_at hl 2 rfl) ?_
    refine lv_if_eq (tgt := 51) hx hb dX1_opens_33 (by decide) (fun _ => ?_) (fun h9 => absurd hnw h9)
    refine lv_aload_n hx hb dX1_opens_51 rfl (lv_at hl 1 rfl) ?_
    refine lv_iload_n hx hb dX1_opens_52 rfl (lv_at hl 4 rfl) ?_
    refine lv_iload_n hx hb dX1_opens_53 rfl (lv_at hl 3 rfl) ?_
    refine lv_iconst (v := 2) hx hb dX1_opens_54 (by decide) ?_
    refine tk_as (nI 2) (rfl) ?_
    have hPc := hP.sub (ws' := [(h0, .inr (1, [.ref mk, .int lf, .int rt, .int ol, .int oo])), (mk, .inl (cM, 4, .inl g))]) [0, 1] rfl
    have hKc := hK.sub (tys' := [(cM, .int)]) [0] rfl
    refine vp_callSi (W.runV (As := [.int x, .int sm, .int (nI 2)]) (rest := [.int y]) ⟨hx, hb, hml, hown, hts⟩ (metX1_tea l dC dI h0 mk cM g lf rt ol oo x sm 2 (by omega)) (cwV 3 hts (lw_V q407 q409 qs14 q18 q410) rfl rfl rfl (by decide +kernel) hR) ⟨fun a U g mk q => by obtain ⟨q0, qP, qK⟩ := q; exact ⟨q0, qP, va_K.moved (u := U) (U := U.calling g mk a) (Vm.Alike.refl U.vm) qK⟩, va_recv hK hP (ci := 1) (q0 := 0) rfl rfl, fun U hU hW => ⟨rfl, by rw [hU]; exact hPc, va_K.moved hW.alike hKc⟩⟩ rfl rfl hl.1 rfl (lv_room (Nat.le_of_ble_eq_true rfl)) dX1_opens_55 hC) (fun z1 hz1 => ?_)
    have ez1 : z1 = tq_h x sm (g 2) (g 3) := hz1
    subst ez1
    refine lv_isub hx hb dX1_opens_58 ?_
    refine lv_topi (fun y1 ey1 => ?_)
    refine lv_istore (lv' := [(4, .int y1), (6, .int s1), (0, .ref h0), (1, .int nw), (2, .int sm), (3, .int x), (5, .int (nI i))]) hx hb dX1_opens_59 hl (by decide) rfl (fun ls hl => ?_)
    refine lv_iload_n hx hb dX1_opens_61 rfl (lv_at hl 5 rfl) ?_
    refine lv_iload_n hx hb dX1_opens_62 rfl (lv_at hl 3 rfl) ?_
    refine lv_if_eq (tgt := 81) hx hb dX1_opens_63 (by decide) (fun _ => ?_) (fun h9 => absurd hnw h9)
    refine lv_aload_n hx hb dX1_opens_81 rfl (lv_at hl 2 rfl) ?_
    refine lv_iload hx hb dX1_opens_82 (lv_at hl 0 rfl) ?_
    refine lv_iload_n hx hb dX1_opens_84 rfl (lv_at hl 4 rfl) ?_
    refine lv_iconst (v := 0) hx hb dX1_opens_85 (by decide) ?_
    refine tk_as (nI 0) (nI_0.symm) ?_
    have hPc := hP.sub (ws' := [(h0, .inr (1, [.ref mk, .int lf, .int rt, .int ol, .int oo])), (mk, .inl (cM, 4, .inl g))]) [0, 1] rfl
    have hKc := hK.sub (tys' := [(cM, .int)]) [0] rfl
    refine vp_callSi (W.runV (As := [.int y1, .int sm, .int (nI 0)]) (rest := [.int x]) ⟨hx, hb, hml, hown, hts⟩ (metX1_tea l dC dI h0 mk cM g lf rt ol oo y1 sm 0 (by omega)) (cwV 3 hts (lw_V q407 q409 qs14 q18 q410) rfl rfl rfl (by decide +kernel) hR) ⟨fun a U g mk q => by obtain ⟨q0, qP, qK⟩ := q; exact ⟨q0, qP, va_K.moved (u := U) (U := U.calling g mk a) (Vm.Alike.refl U.vm) qK⟩, va_recv hK hP (ci := 1) (q0 := 0) rfl rfl, fun U hU hW => ⟨rfl, by rw [hU]; exact hPc, va_K.moved hW.alike hKc⟩⟩ rfl rfl hl.1 rfl (lv_room (Nat.le_of_ble_eq_true rfl)) dX1_opens_86 hC) (fun z2 hz2 => ?_)
    have ez2 : z2 = tq_h y1 sm (g 0) (g 1) := hz2
    subst ez2
    refine lv_isub hx hb dX1_opens_89 ?_
    refine lv_topi (fun x1 ex1 => ?_)
    refine lv_istore_n (lv' := [(3, .int x1), (4, .int y1), (6, .int s1), (0, .ref h0), (1, .int nw), (2, .int sm), (5, .int (nI i))]) hx hb dX1_opens_90 rfl hl (by decide) rfl (fun ls hl => ?_)
    refine lv_iload hx hb dX1_opens_91 (lv_at hl 2 rfl) ?_
    refine lv_istore_n (lv' := [(2, .int s1), (3, .int x1), (4, .int y1), (6, .int s1), (0, .ref h0), (1, .int nw), (5, .int (nI i))]) hx hb dX1_opens_93 rfl hl (by decide) rfl (fun ls hl => ?_)
    refine lv_iinc (v := nI (i + 1)) (lv' := [(5, .int (nI (i + 1))), (2, .int s1), (3, .int x1), (4, .int y1), (6, .int s1), (0, .ref h0), (1, .int nw)]) hx hb dX1_opens_94 hl (k := 6) rfl (tk_inc i) (by decide) rfl (fun ls hl => ?_)
    refine lv_goto (tgt := 17) hx hb dX1_opens_97 (by decide) ?_
    exact ih (i + 1) s1 x1 y1 (by omega) (by rw [← hv, ex1, ey1, es1]; rfl) ls (lv_sub hl [5, 6, 1, 2, 3, 0] rfl)
set_option maxHeartbeats 4000000 in
set_option maxRecDepth 100000 in
/-- the cycles: n are left -/
theorem lpX1_opensX {p : Program} {l : Launch} {e : Env} {R : Room} {s : State} {m : MethodId} {args : Array Value} {below : List Frame} {meth : Method} {c : Code} {cells slots : Nat} {Q : State → Prop} {dC : Nat → ClassId} {dI : Nat → Nat → Nat} {H : Heap} {locs : List Loc} {h0 mk : Nat} {cM : ClassId} {g : Nat → Int32} {lf rt ol oo nw X Y : Int32} (hx : p.tables.exec = Jvm.exec) (hb : c.code = cX1_opens) (hml : c.maxLocals = 7) (hown : s.vm.findClass RX1 = some m.cls) (hts : ∀ w ∈ lw_all, w.before args s = true) (hR : 1 ≤ R.frames ∧ 23 ≤ R.locals) (hC : cells ≤ R.cells ∧ slots ≤ R.slots) (hnw : ¬ nw = 0) (hK : va_K (dC, dI) vwCl [(cM, .int)] s) (hP : va_P (dC, dI) vwCl [(h0, .inr (1, [.ref mk, .int lf, .int rt, .int ol, .int oo])), (mk, .inl (cM, 4, .inl g))] H) (kk : ∀ ls : Array Slot, lv_has ls 7 [(0, .ref h0), (3, .int X), (4, .int Y)] → W p l e R s m args below meth c H locs cells slots Q (F0 m 100 ls [])) :
    ∀ (n i : Nat) (sm x y : Int32), i + n = 32 → tq_xD g n sm x y = (X, Y) → ∀ ls : Array Slot, lv_has ls 7 [(0, .ref h0), (1, .int nw), (2, .int sm), (3, .int x), (4, .int y), (5, .int (nI i))] → W p l e R s m args below meth c H locs cells slots Q (F0 m 17 ls []) := by
  intro n
  induction n with
  | zero =>
    intro i sm x y hi hv ls hl
    obtain rfl : i = 32 := by omega
    have hv : (x, y) = (X, Y) := hv
    obtain ⟨rfl, rfl⟩ := Prod.mk.inj hv
    refine lv_iload hx hb dX1_opens_17 (lv_at hl 5 rfl) ?_
    refine lv_bipush (v := 32) hx hb dX1_opens_19 (by decide) ?_
    exact lv_icmp_ge (tgt := 100) hx hb dX1_opens_21 (by decide) (fun _ => kk ls (lv_sub hl [0, 3, 4] rfl)) (fun h9 => absurd (by decide +kernel) h9)
  | succ n ih =>
    intro i sm x y hi hv ls hl
    refine lv_iload hx hb dX1_opens_17 (lv_at hl 5 rfl) ?_
    refine lv_bipush (v := 32) hx hb dX1_opens_19 (by decide) ?_
    refine lv_icmp_ge (tgt := 100) hx hb dX1_opens_21 (by decide) (fun h9 => absurd h9 (nI_ge (a := i) (b := 32) (by omega) (by omega))) (fun _ => ?_)
    refine lv_iload_n hx hb dX1_opens_24 rfl (lv_at hl 2 rfl) ?_
    refine lv_ldc (v := -1640531527) hx hb hown (hts _ q402) dX1_opens_25 ?_
    refine lv_isub hx hb dX1_opens_27 ?_
    refine lv_topi (fun s1 es1 => ?_)
    refine lv_istore (lv' := [(6, .int s1), (0, .ref h0), (1, .int nw), (2, .int sm), (3, .int x), (4, .int y), (5, .int (nI i))]) hx hb dX1_opens_28 hl (by decide) rfl (fun ls hl => ?_)
    refine lv_iload hx hb dX1_opens_30 (lv_at hl 5 rfl) ?_
    refine lv_iload_n hx hb dX1_opens_32 rfl (lv_at hl 2 rfl) ?_
    refine lv_if_eq (tgt := 51) hx hb dX1_opens_33 (by decide) (fun h9 => absurd h9 hnw) (fun _ => ?_)
    refine lv_aload_n hx hb dX1_opens_36 rfl (lv_at hl 1 rfl) ?_
    refine lv_iload_n hx hb dX1_opens_37 rfl (lv_at hl 4 rfl) ?_
    refine lv_iload_n hx hb dX1_opens_38 rfl (lv_at hl 3 rfl) ?_
    refine lv_iload_n hx hb dX1_opens_39 rfl (lv_at hl 3 rfl) ?_
    refine lv_bipush (v := 11) hx hb dX1_opens_40 (by decide) ?_
    refine lv_iushr (v := (sm.toUInt32 >>> ((11 : Int32).toUInt32 &&& Int32.toUInt32 31)).toInt32) hx hb dX1_opens_42 rfl ?_
    refine lv_iconst (v := 3) hx hb dX1_opens_43 (by decide) ?_
    refine lv_iand hx hb dX1_opens_44 ?_
    have hPc := hP.sub (ws' := [(h0, .inr (1, [.ref mk, .int lf, .int rt, .int ol, .int oo])), (mk, .inl (cM, 4, .inl g))]) [0, 1] rfl
    have hKc := hK.sub (tys' := [(cM, .int)]) [0] rfl
    refine vp_callSi (W.runV (As := [.int x, .int sm, .int (((sm.toUInt32 >>> ((11 : Int32).toUInt32 &&& Int32.toUInt32 31)).toInt32) &&& 3)]) (rest := [.int y]) ⟨hx, hb, hml, hown, hts⟩ (metX1_xtea l dC dI h0 mk cM g lf rt ol oo x sm (((sm.toUInt32 >>> ((11 : Int32).toUInt32 &&& Int32.toUInt32 31)).toInt32) &&& 3) (tq_3 _)) (cwV 3 hts (lw_V q403 q405 qs13 q18 q406) rfl rfl rfl (by decide +kernel) hR) ⟨fun a U g mk q => by obtain ⟨q0, qP, qK⟩ := q; exact ⟨q0, qP, va_K.moved (u := U) (U := U.calling g mk a) (Vm.Alike.refl U.vm) qK⟩, va_recv hK hP (ci := 1) (q0 := 0) rfl rfl, fun U hU hW => ⟨rfl, by rw [hU]; exact hPc, va_K.moved hW.alike hKc⟩⟩ rfl rfl hl.1 rfl (lv_room (Nat.le_of_ble_eq_true rfl)) dX1_opens_45 hC) (fun z1 hz1 => ?_)
    have ez1 : z1 = tq_x x (tq_kO g sm) := hz1
    subst ez1
    refine lv_goto (tgt := 58) hx hb dX1_opens_48 (by decide) ?_
    refine lv_isub hx hb dX1_opens_58 ?_
    refine lv_topi (fun y1 ey1 => ?_)
    refine lv_istore (lv' := [(4, .int y1), (6, .int s1), (0, .ref h0), (1, .int nw), (2, .int sm), (3, .int x), (5, .int (nI i))]) hx hb dX1_opens_59 hl (by decide) rfl (fun ls hl => ?_)
    refine lv_iload_n hx hb dX1_opens_61 rfl (lv_at hl 5 rfl) ?_
    refine lv_iload_n hx hb dX1_opens_62 rfl (lv_at hl 3 rfl) ?_
    refine lv_if_eq (tgt := 81) hx hb dX1_opens_63 (by decide) (fun h9 => absurd h9 hnw) (fun _ => ?_)
    refine lv_aload_n hx hb dX1_opens_66 rfl (lv_at hl 2 rfl) ?_
    refine lv_iload hx hb dX1_opens_67 (lv_at hl 0 rfl) ?_
    refine lv_iload hx hb dX1_opens_69 (lv_at hl 1 rfl) ?_
    refine lv_iload hx hb dX1_opens_71 (lv_at hl 1 rfl) ?_
    refine lv_iconst (v := 3) hx hb dX1_opens_73 (by decide) ?_
    refine lv_iand hx hb dX1_opens_74 ?_
    have hPc := hP.sub (ws' := [(h0, .inr (1, [.ref mk, .int lf, .int rt, .int ol, .int oo])), (mk, .inl (cM, 4, .inl g))]) [0, 1] rfl
    have hKc := hK.sub (tys' := [(cM, .int)]) [0] rfl
    refine vp_callSi (W.runV (As := [.int y1, .int s1, .int (s1 &&& 3)]) (rest := [.int x]) ⟨hx, hb, hml, hown, hts⟩ (metX1_xtea l dC dI h0 mk cM g lf rt ol oo y1 s1 (s1 &&& 3) (tq_3 _)) (cwV 3 hts (lw_V q403 q405 qs13 q18 q406) rfl rfl rfl (by decide +kernel) hR) ⟨fun a U g mk q => by obtain ⟨q0, qP, qK⟩ := q; exact ⟨q0, qP, va_K.moved (u := U) (U := U.calling g mk a) (Vm.Alike.refl U.vm) qK⟩, va_recv hK hP (ci := 1) (q0 := 0) rfl rfl, fun U hU hW => ⟨rfl, by rw [hU]; exact hPc, va_K.moved hW.alike hKc⟩⟩ rfl rfl hl.1 rfl (lv_room (Nat.le_of_ble_eq_true rfl)) dX1_opens_75 hC) (fun z2 hz2 => ?_)
    have ez2 : z2 = tq_x y1 (tq_kE g s1) := hz2
    subst ez2
    refine lv_goto (tgt := 89) hx hb dX1_opens_78 (by decide) ?_
    refine lv_isub hx hb dX1_opens_89 ?_
    refine lv_topi (fun x1 ex1 => ?_)
    refine lv_istore_n (lv' := [(3, .int x1), (4, .int y1), (6, .int s1), (0, .ref h0), (1, .int nw), (2, .int sm), (5, .int (nI i))]) hx hb dX1_opens_90 rfl hl (by decide) rfl (fun ls hl => ?_)
    refine lv_iload hx hb dX1_opens_91 (lv_at hl 2 rfl) ?_
    refine lv_istore_n (lv' := [(2, .int s1), (3, .int x1), (4, .int y1), (6, .int s1), (0, .ref h0), (1, .int nw), (5, .int (nI i))]) hx hb dX1_opens_93 rfl hl (by decide) rfl (fun ls hl => ?_)
    refine lv_iinc (v := nI (i + 1)) (lv' := [(5, .int (nI (i + 1))), (2, .int s1), (3, .int x1), (4, .int y1), (6, .int s1), (0, .ref h0), (1, .int nw)]) hx hb dX1_opens_94 hl (k := 6) rfl (tk_inc i) (by decide) rfl (fun ls hl => ?_)
    refine lv_goto (tgt := 17) hx hb dX1_opens_97 (by decide) ?_
    exact ih (i + 1) s1 x1 y1 (by omega) (by rw [← hv, ex1, ey1, es1]; rfl) ls (lv_sub hl [5, 6, 1, 2, 3, 0] rfl)
set_option maxHeartbeats 4000000 in
set_option maxRecDepth 100000 in
/-- locks -/
theorem metX1_locks (l : Launch) (dC : Nat → ClassId) (dI : Nat → Nat → Nat) (h0 mk : Nat) (cM : ClassId) (g : Nat → Int32) (lf rt ol oo : Int32) (nw : Int32) (sz : Nat) : Met l yX1_locks (ws_ yX1_locks cX1_locks 7 none) ({ frames := 1, cells := 0, slots := 0, locals := 30 }) (va_Pc [.ref h0, .int nw] (fun U => U.heap.size = sz ∧ va_P (dC, dI) vwCl [(h0, .inr (1, [.ref mk, .int lf, .int rt, .int ol, .int oo])), (mk, .inl (cM, 4, .inl g))] U.heap ∧ va_K (dC, dI) vwCl [(cM, .int)] U ∧ va_D (fun _ => True) [(h0, .inr (1, [.ref mk, .int lf, .int rt, .int ol, .int oo])), (mk, .inl (cM, 4, .inl g))])) (va_Qv (fun u : Int32 × Int32 => u = if nw = 0 then tq_tE (g 0) (g 1) (g 2) (g 3) 32 0 lf rt else tq_xE g 32 0 lf rt) (fun u t => va_P (dC, dI) vwCl [(h0, .inr (1, [.ref mk, .int lf, .int rt, .int u.1, .int u.2])), (mk, .inl (cM, 4, .inl g))] t.heap ∧ va_K (dC, dI) vwCl [(cM, .int)] t ∧ va_D (va_A [(h0, .inr (1, [.ref mk, .int lf, .int rt, .int ol, .int oo])), (mk, .inl (cM, 4, .inl g))] sz) [(h0, .inr (1, [.ref mk, .int lf, .int rt, .int u.1, .int u.2])), (mk, .inl (cM, 4, .inl g))]) (va_A [(h0, .inr (1, [.ref mk, .int lf, .int rt, .int ol, .int oo])), (mk, .inl (cM, 4, .inl g))] sz)) 0 0 (va_A [(h0, .inr (1, [.ref mk, .int lf, .int rt, .int ol, .int oo])), (mk, .inl (cM, 4, .inl g))] sz) := by
  refine Met.ofW (cc := cX1_locks) (maxL := 7) (ret := none) (by decide) rfl ?_
  intro p e s m args below meth c s₁ B hml hv
  obtain ⟨rfl, hsz, hP, hK, hD0⟩ := hv
  have hx := B.exec
  have hb := B.bytes
  have hr := B.returns
  have hts := atoms_spec (ws := ws_ yX1_locks cX1_locks 7 none) B.pre
  have hts : ∀ w ∈ lw_all, w.before _ s = true := fun w h => hts w (List.mem_cons_of_mem _ h)
  have hown : s.vm.findClass RX1 = some m.cls := findClass_of_methodNamed B.named
  have hlocks := B.notSynchronized
  subst hsz
  have hD := hD0.self (sz := s.heap.size)
  generalize hAe : va_A [(h0, .inr (1, [.ref mk, .int lf, .int rt, .int ol, .int oo])), (mk, .inl (cM, 4, .inl g))] s.heap.size = A at hD ⊢
  have hA : ∀ q : Nat, s.heap.size ≤ q → A q := fun q h => by rw [← hAe]; exact Or.inr h
  have hS : va_S A s.heap s.heap [] := va_S.rf
  have hl := lv_entry ([.ref h0, .int nw]) (n := 7) (Nat.le_of_ble_eq_true rfl)
  rw [lg_entry_eq]
  generalize (lg_sl ([.ref h0, .int nw]) ++ List.replicate (7 - (lg_sl ([.ref h0, .int nw])).length) Slot.unset).toArray = ls at hl ⊢
  have hl : lv_has ls 7 [(0, .ref h0), (1, .int nw)] := hl
  have hP : va_P (dC, dI) vwCl [(h0, .inr (1, [.ref mk, .int lf, .int rt, .int ol, .int oo])), (mk, .inl (cM, 4, .inl g))] s.heap := hP
  refine lv_iconst (v := 0) hx hb dX1_locks_0 (by decide) ?_
  refine lv_istore_n (lv' := [(2, .int 0), (0, .ref h0), (1, .int nw)]) hx hb dX1_locks_1 rfl hl (by decide) rfl (fun ls hl => ?_)
  refine lv_aload_n hx hb dX1_locks_2 rfl (lv_at hl 1 rfl) ?_
  refine va_get (D := (dC, dI)) (ci := 1) (v := .int lf) (C := RX1) (T := TX1) (N := 5) hx hb hts in_X1 hown hK hP 0 rfl rfl 1 (by decide) (hts _ q371) (fun _ h9 => h9) rfl dX1_locks_3 ?_
  refine lv_istore_n (lv' := [(3, .int lf), (2, .int 0), (0, .ref h0), (1, .int nw)]) hx hb dX1_locks_6 rfl hl (by decide) rfl (fun ls hl => ?_)
  refine lv_aload_n hx hb dX1_locks_7 rfl (lv_at hl 2 rfl) ?_
  refine va_get (D := (dC, dI)) (ci := 1) (v := .int rt) (C := RX1) (T := TX1) (N := 5) hx hb hts in_X1 hown hK hP 0 rfl rfl 2 (by decide) (hts _ q372) (fun _ h9 => h9) rfl dX1_locks_8 ?_
  refine lv_istore (lv' := [(4, .int rt), (3, .int lf), (2, .int 0), (0, .ref h0), (1, .int nw)]) hx hb dX1_locks_11 hl (by decide) rfl (fun ls hl => ?_)
  refine lv_iconst (v := 0) hx hb dX1_locks_13 (by decide) ?_
  refine tk_as (nI 0) (nI_0.symm) ?_
  refine lv_istore (lv' := [(5, .int (nI 0)), (4, .int rt), (3, .int lf), (2, .int 0), (0, .ref h0), (1, .int nw)]) hx hb dX1_locks_14 hl (by decide) rfl (fun ls hl => ?_)
  by_cases hnw : nw = 0
  · obtain ⟨X, Y, hXY⟩ : ∃ X Y : Int32, tq_tE (g 0) (g 1) (g 2) (g 3) 32 0 lf rt = (X, Y) := ⟨_, _, rfl⟩
    refine lpX1_locksT (X := X) (Y := Y) hx hb hml hown hts ⟨Nat.le_of_ble_eq_true rfl, Nat.le_of_ble_eq_true rfl⟩ ⟨Nat.le_of_ble_eq_true rfl, Nat.le_of_ble_eq_true rfl⟩ hnw hK hP (fun ls hl => ?_) 32 0 0 lf rt rfl hXY ls (lv_sub hl [4, 5, 3, 2, 1, 0] rfl)
    refine lv_aload_n hx hb dX1_locks_101 rfl (lv_at hl 0 rfl) ?_
    refine lv_iload_n hx hb dX1_locks_102 rfl (lv_at hl 1 rfl) ?_
    refine va_put (D := (dC, dI)) (ci := 1) (v := .int X) (ty := .int) (C := RX1) (T := TX1) (N := 5) hx hb hts in_X1 tyX1 tyX1_ok nmX1 hown hK hP hD hS 0 rfl rfl 3 (by decide) (hts _ q373) (fun _ h9 => h9) rfl (by decide +kernel) rfl rfl (Nat.le_of_ble_eq_true rfl) dX1_locks_103 (fun H locs hP hD hS => ?_)
    have hP : va_P (dC, dI) vwCl [(h0, .inr (1, [.ref mk, .int lf, .int rt, .int X, .int oo])), (mk, .inl (cM, 4, .inl g))] H := hP
    have hD : va_D A [(h0, .inr (1, [.ref mk, .int lf, .int rt, .int X, .int oo])), (mk, .inl (cM, 4, .inl g))] := hD
    refine lv_aload_n hx hb dX1_locks_106 rfl (lv_at hl 0 rfl) ?_
    refine lv_iload hx hb dX1_locks_107 (lv_at hl 2 rfl) ?_
    refine va_put (D := (dC, dI)) (ci := 1) (v := .int Y) (ty := .int) (C := RX1) (T := TX1) (N := 5) hx hb hts in_X1 tyX1 tyX1_ok nmX1 hown hK hP hD hS 0 rfl rfl 4 (by decide) (hts _ q374) (fun _ h9 => h9) rfl (by decide +kernel) rfl rfl (Nat.le_of_ble_eq_true rfl) dX1_locks_109 (fun H locs hP hD hS => ?_)
    have hP : va_P (dC, dI) vwCl [(h0, .inr (1, [.ref mk, .int lf, .int rt, .int X, .int Y])), (mk, .inl (cM, 4, .inl g))] H := hP
    have hD : va_D A [(h0, .inr (1, [.ref mk, .int lf, .int rt, .int X, .int Y])), (mk, .inl (cM, 4, .inl g))] := hD
    have hfin : (X, Y) = if nw = 0 then tq_tE (g 0) (g 1) (g 2) (g 3) 32 0 lf rt else tq_xE g 32 0 lf rt := hXY.symm.trans (if_pos hnw).symm
    have hP9 := hP.sub (ws' := [(h0, .inr (1, [.ref mk, .int lf, .int rt, .int X, .int Y])), (mk, .inl (cM, 4, .inl g))]) [0, 1] rfl
    have hD9 := hD.sub (ws' := [(h0, .inr (1, [.ref mk, .int lf, .int rt, .int X, .int Y])), (mk, .inl (cM, 4, .inl g))]) [0, 1] (by decide) rfl
    have hK9 := hK.sub (tys' := [(cM, .int)]) [0] rfl
    exact W.vret hx hb hr (fun t ht hW => ⟨⟨(X, Y), rfl, hfin, by rw [ht]; exact hP9, va_K.moved hW.alike hK9, hD9⟩, hS.F ht⟩) hS.2.2 dX1_locks_112
  · obtain ⟨X, Y, hXY⟩ : ∃ X Y : Int32, tq_xE g 32 0 lf rt = (X, Y) := ⟨_, _, rfl⟩
    refine lpX1_locksX (X := X) (Y := Y) hx hb hml hown hts ⟨Nat.le_of_ble_eq_true rfl, Nat.le_of_ble_eq_true rfl⟩ ⟨Nat.le_of_ble_eq_true rfl, Nat.le_of_ble_eq_true rfl⟩ hnw hK hP (fun ls hl => ?_) 32 0 0 lf rt rfl hXY ls (lv_sub hl [4, 5, 3, 2, 1, 0] rfl)
    refine lv_aload_n hx hb dX1_locks_101 rfl (lv_at hl 0 rfl) ?_
    refine lv_iload_n hx hb dX1_locks_102 rfl (lv_at hl 1 rfl) ?_
    refine va_put (D := (dC, dI)) (ci := 1) (v := .int X) (ty := .int) (C := RX1) (T := TX1) (N := 5) hx hb hts in_X1 tyX1 tyX1_ok nmX1 hown hK hP hD hS 0 rfl rfl 3 (by decide) (hts _ q373) (fun _ h9 => h9) rfl (by decide +kernel) rfl rfl (Nat.le_of_ble_eq_true rfl) dX1_locks_103 (fun H locs hP hD hS => ?_)
    have hP : va_P (dC, dI) vwCl [(h0, .inr (1, [.ref mk, .int lf, .int rt, .int X, .int oo])), (mk, .inl (cM, 4, .inl g))] H := hP
    have hD : va_D A [(h0, .inr (1, [.ref mk, .int lf, .int rt, .int X, .int oo])), (mk, .inl (cM, 4, .inl g))] := hD
    refine lv_aload_n hx hb dX1_locks_106 rfl (lv_at hl 0 rfl) ?_
    refine lv_iload hx hb dX1_locks_107 (lv_at hl 2 rfl) ?_
    refine va_put (D := (dC, dI)) (ci := 1) (v := .int Y) (ty := .int) (C := RX1) (T := TX1) (N := 5) hx hb hts in_X1 tyX1 tyX1_ok nmX1 hown hK hP hD hS 0 rfl rfl 4 (by decide) (hts _ q374) (fun _ h9 => h9) rfl (by decide +kernel) rfl rfl (Nat.le_of_ble_eq_true rfl) dX1_locks_109 (fun H locs hP hD hS => ?_)
    have hP : va_P (dC, dI) vwCl [(h0, .inr (1, [.ref mk, .int lf, .int rt, .int X, .int Y])), (mk, .inl (cM, 4, .inl g))] H := hP
    have hD : va_D A [(h0, .inr (1, [.ref mk, .int lf, .int rt, .int X, .int Y])), (mk, .inl (cM, 4, .inl g))] := hD
    have hfin : (X, Y) = if nw = 0 then tq_tE (g 0) (g 1) (g 2) (g 3) 32 0 lf rt else tq_xE g 32 0 lf rt := hXY.symm.trans (if_neg hnw).symm
    have hP9 := hP.sub (ws' := [(h0, .inr (1, [.ref mk, .int lf, .int rt, .int X, .int Y])), (mk, .inl (cM, 4, .inl g))]) [0, 1] rfl
    have hD9 := hD.sub (ws' := [(h0, .inr (1, [.ref mk, .int lf, .int rt, .int X, .int Y])), (mk, .inl (cM, 4, .inl g))]) [0, 1] (by decide) rfl
    have hK9 := hK.sub (tys' := [(cM, .int)]) [0] rfl
    exact W.vret hx hb hr (fun t ht hW => ⟨⟨(X, Y), rfl, hfin, by rw [ht]; exact hP9, va_K.moved hW.alike hK9, hD9⟩, hS.F ht⟩) hS.2.2 dX1_locks_112
set_option maxHeartbeats 4000000 in
set_option maxRecDepth 100000 in
/-- opens -/
theorem metX1_opens (l : Launch) (dC : Nat → ClassId) (dI : Nat → Nat → Nat) (h0 mk : Nat) (cM : ClassId) (g : Nat → Int32) (lf rt ol oo : Int32) (nw : Int32) (sz : Nat) : Met l yX1_opens (ws_ yX1_opens cX1_opens 7 none) ({ frames := 1, cells := 0, slots := 0, locals := 30 }) (va_Pc [.ref h0, .int nw] (fun U => U.heap.size = sz ∧ va_P (dC, dI) vwCl [(h0, .inr (1, [.ref mk, .int lf, .int rt, .int ol, .int oo])), (mk, .inl (cM, 4, .inl g))] U.heap ∧ va_K (dC, dI) vwCl [(cM, .int)] U ∧ va_D (fun _ => True) [(h0, .inr (1, [.ref mk, .int lf, .int rt, .int ol, .int oo])), (mk, .inl (cM, 4, .inl g))])) (va_Qv (fun u : Int32 × Int32 => u = if nw = 0 then tq_tD (g 0) (g 1) (g 2) (g 3) 32 (-957401312) lf rt else tq_xD g 32 (-957401312) lf rt) (fun u t => va_P (dC, dI) vwCl [(h0, .inr (1, [.ref mk, .int lf, .int rt, .int u.1, .int u.2])), (mk, .inl (cM, 4, .inl g))] t.heap ∧ va_K (dC, dI) vwCl [(cM, .int)] t ∧ va_D (va_A [(h0, .inr (1, [.ref mk, .int lf, .int rt, .int ol, .int oo])), (mk, .inl (cM, 4, .inl g))] sz) [(h0, .inr (1, [.ref mk, .int lf, .int rt, .int u.1, .int u.2])), (mk, .inl (cM, 4, .inl g))]) (va_A [(h0, .inr (1, [.ref mk, .int lf, .int rt, .int ol, .int oo])), (mk, .inl (cM, 4, .inl g))] sz)) 0 0 (va_A [(h0, .inr (1, [.ref mk, .int lf, .int rt, .int ol, .int oo])), (mk, .inl (cM, 4, .inl g))] sz) := by
  refine Met.ofW (cc := cX1_opens) (maxL := 7) (ret := none) (by decide) rfl ?_
  intro p e s m args below meth c s₁ B hml hv
  obtain ⟨rfl, hsz, hP, hK, hD0⟩ := hv
  have hx := B.exec
  have hb := B.bytes
  have hr := B.returns
  have hts := atoms_spec (ws := ws_ yX1_opens cX1_opens 7 none) B.pre
  have hts : ∀ w ∈ lw_all, w.before _ s = true := fun w h => hts w (List.mem_cons_of_mem _ h)
  have hown : s.vm.findClass RX1 = some m.cls := findClass_of_methodNamed B.named
  have hlocks := B.notSynchronized
  subst hsz
  have hD := hD0.self (sz := s.heap.size)
  generalize hAe : va_A [(h0, .inr (1, [.ref mk, .int lf, .int rt, .int ol, .int oo])), (mk, .inl (cM, 4, .inl g))] s.heap.size = A at hD ⊢
  have hA : ∀ q : Nat, s.heap.size ≤ q → A q := fun q h => by rw [← hAe]; exact Or.inr h
  have hS : va_S A s.heap s.heap [] := va_S.rf
  have hl := lv_entry ([.ref h0, .int nw]) (n := 7) (Nat.le_of_ble_eq_true rfl)
  rw [lg_entry_eq]
  generalize (lg_sl ([.ref h0, .int nw]) ++ List.replicate (7 - (lg_sl ([.ref h0, .int nw])).length) Slot.unset).toArray = ls at hl ⊢
  have hl : lv_has ls 7 [(0, .ref h0), (1, .int nw)] := hl
  have hP : va_P (dC, dI) vwCl [(h0, .inr (1, [.ref mk, .int lf, .int rt, .int ol, .int oo])), (mk, .inl (cM, 4, .inl g))] s.heap := hP
  refine lv_ldc (v := -957401312) hx hb hown (hts _ q419) dX1_opens_0 ?_
  refine lv_istore_n (lv' := [(2, .int (-957401312)), (0, .ref h0), (1, .int nw)]) hx hb dX1_opens_2 rfl hl (by decide) rfl (fun ls hl => ?_)
  refine lv_aload_n hx hb dX1_opens_3 rfl (lv_at hl 1 rfl) ?_
  refine va_get (D := (dC, dI)) (ci := 1) (v := .int lf) (C := RX1) (T := TX1) (N := 5) hx hb hts in_X1 hown hK hP 0 rfl rfl 1 (by decide) (hts _ q371) (fun _ h9 => h9) rfl dX1_opens_4 ?_
  refine lv_istore_n (lv' := [(3, .int lf), (2, .int (-957401312)), (0, .ref h0), (1, .int nw)]) hx hb dX1_opens_7 rfl hl (by decide) rfl (fun ls hl => ?_)
  refine lv_aload_n hx hb dX1_opens_8 rfl (lv_at hl 2 rfl) ?_
  refine va_get (D := (dC, dI)) (ci := 1) (v := .int rt) (C := RX1) (T := TX1) (N := 5) hx hb hts in_X1 hown hK hP 0 rfl rfl 2 (by decide) (hts _ q372) (fun _ h9 => h9) rfl dX1_opens_9 ?_
  refine lv_istore (lv' := [(4, .int rt), (3, .int lf), (2, .int (-957401312)), (0, .ref h0), (1, .int nw)]) hx hb dX1_opens_12 hl (by decide) rfl (fun ls hl => ?_)
  refine lv_iconst (v := 0) hx hb dX1_opens_14 (by decide) ?_
  refine tk_as (nI 0) (nI_0.symm) ?_
  refine lv_istore (lv' := [(5, .int (nI 0)), (4, .int rt), (3, .int lf), (2, .int (-957401312)), (0, .ref h0), (1, .int nw)]) hx hb dX1_opens_15 hl (by decide) rfl (fun ls hl => ?_)
  by_cases hnw : nw = 0
  · obtain ⟨X, Y, hXY⟩ : ∃ X Y : Int32, tq_tD (g 0) (g 1) (g 2) (g 3) 32 (-957401312) lf rt = (X, Y) := ⟨_, _, rfl⟩
    refine lpX1_opensT (X := X) (Y := Y) hx hb hml hown hts ⟨Nat.le_of_ble_eq_true rfl, Nat.le_of_ble_eq_true rfl⟩ ⟨Nat.le_of_ble_eq_true rfl, Nat.le_of_ble_eq_true rfl⟩ hnw hK hP (fun ls hl => ?_) 32 0 (-957401312) lf rt rfl hXY ls (lv_sub hl [4, 5, 3, 2, 1, 0] rfl)
    refine lv_aload_n hx hb dX1_opens_100 rfl (lv_at hl 0 rfl) ?_
    refine lv_iload_n hx hb dX1_opens_101 rfl (lv_at hl 1 rfl) ?_
    refine va_put (D := (dC, dI)) (ci := 1) (v := .int X) (ty := .int) (C := RX1) (T := TX1) (N := 5) hx hb hts in_X1 tyX1 tyX1_ok nmX1 hown hK hP hD hS 0 rfl rfl 3 (by decide) (hts _ q373) (fun _ h9 => h9) rfl (by decide +kernel) rfl rfl (Nat.le_of_ble_eq_true rfl) dX1_opens_102 (fun H locs hP hD hS => ?_)
    have hP : va_P (dC, dI) vwCl [(h0, .inr (1, [.ref mk, .int lf, .int rt, .int X, .int oo])), (mk, .inl (cM, 4, .inl g))] H := hP
    have hD : va_D A [(h0, .inr (1, [.ref mk, .int lf, .int rt, .int X, .int oo])), (mk, .inl (cM, 4, .inl g))] := hD
    refine lv_aload_n hx hb dX1_opens_105 rfl (lv_at hl 0 rfl) ?_
    refine lv_iload hx hb dX1_opens_106 (lv_at hl 2 rfl) ?_
    refine va_put (D := (dC, dI)) (ci := 1) (v := .int Y) (ty := .int) (C := RX1) (T := TX1) (N := 5) hx hb hts in_X1 tyX1 tyX1_ok nmX1 hown hK hP hD hS 0 rfl rfl 4 (by decide) (hts _ q374) (fun _ h9 => h9) rfl (by decide +kernel) rfl rfl (Nat.le_of_ble_eq_true rfl) dX1_opens_108 (fun H locs hP hD hS => ?_)
    have hP : va_P (dC, dI) vwCl [(h0, .inr (1, [.ref mk, .int lf, .int rt, .int X, .int Y])), (mk, .inl (cM, 4, .inl g))] H := hP
    have hD : va_D A [(h0, .inr (1, [.ref mk, .int lf, .int rt, .int X, .int Y])), (mk, .inl (cM, 4, .inl g))] := hD
    have hfin : (X, Y) = if nw = 0 then tq_tD (g 0) (g 1) (g 2) (g 3) 32 (-957401312) lf rt else tq_xD g 32 (-957401312) lf rt := hXY.symm.trans (if_pos hnw).symm
    have hP9 := hP.sub (ws' := [(h0, .inr (1, [.ref mk, .int lf, .int rt, .int X, .int Y])), (mk, .inl (cM, 4, .inl g))]) [0, 1] rfl
    have hD9 := hD.sub (ws' := [(h0, .inr (1, [.ref mk, .int lf, .int rt, .int X, .int Y])), (mk, .inl (cM, 4, .inl g))]) [0, 1] (by decide) rfl
    have hK9 := hK.sub (tys' := [(cM, .int)]) [0] rfl
    exact W.vret hx hb hr (fun t ht hW => ⟨⟨(X, Y), rfl, hfin, by rw [ht]; exact hP9, va_K.moved hW.alike hK9, hD9⟩, hS.F ht⟩) hS.2.2 dX1_opens_111
  · obtain ⟨X, Y, hXY⟩ : ∃ X Y : Int32, tq_xD g 32 (-957401312) lf rt = (X, Y) := ⟨_, _, rfl⟩
    refine lpX1_opensX (X := X) (Y := Y) hx hb hml hown hts ⟨Nat.le_of_ble_eq_true rfl, Nat.le_of_ble_eq_true rfl⟩ ⟨Nat.le_of_ble_eq_true rfl, Nat.le_of_ble_eq_true rfl⟩ hnw hK hP (fun ls hl => ?_) 32 0 (-957401312) lf rt rfl hXY ls (lv_sub hl [4, 5, 3, 2, 1, 0] rfl)
    refine lv_aload_n hx hb dX1_opens_100 rfl (lv_at hl 0 rfl) ?_
    refine lv_iload_n hx hb dX1_opens_101 rfl (lv_at hl 1 rfl) ?_
    refine va_put (D := (dC, dI)) (ci := 1) (v := .int X) (ty := .int) (C := RX1) (T := TX1) (N := 5) hx hb hts in_X1 tyX1 tyX1_ok nmX1 hown hK hP hD hS 0 rfl rfl 3 (by decide) (hts _ q373) (fun _ h9 => h9) rfl (by decide +kernel) rfl rfl (Nat.le_of_ble_eq_true rfl) dX1_opens_102 (fun H locs hP hD hS => ?_)
    have hP : va_P (dC, dI) vwCl [(h0, .inr (1, [.ref mk, .int lf, .int rt, .int X, .int oo])), (mk, .inl (cM, 4, .inl g))] H := hP
    have hD : va_D A [(h0, .inr (1, [.ref mk, .int lf, .int rt, .int X, .int oo])), (mk, .inl (cM, 4, .inl g))] := hD
    refine lv_aload_n hx hb dX1_opens_105 rfl (lv_at hl 0 rfl) ?_
    refine lv_iload hx hb dX1_opens_106 (lv_at hl 2 rfl) ?_
    refine va_put (D := (dC, dI)) (ci := 1) (v := .int Y) (ty := .int) (C := RX1) (T := TX1) (N := 5) hx hb hts in_X1 tyX1 tyX1_ok nmX1 hown hK hP hD hS 0 rfl rfl 4 (by decide) (hts _ q374) (fun _ h9 => h9) rfl (by decide +kernel) rfl rfl (Nat.le_of_ble_eq_true rfl) dX1_opens_108 (fun H locs hP hD hS => ?_)
    have hP : va_P (dC, dI) vwCl [(h0, .inr (1, [.ref mk, .int lf, .int rt, .int X, .int Y])), (mk, .inl (cM, 4, .inl g))] H := hP
    have hD : va_D A [(h0, .inr (1, [.ref mk, .int lf, .int rt, .int X, .int Y])), (mk, .inl (cM, 4, .inl g))] := hD
    have hfin : (X, Y) = if nw = 0 then tq_tD (g 0) (g 1) (g 2) (g 3) 32 (-957401312) lf rt else tq_xD g 32 (-957401312) lf rt := hXY.symm.trans (if_neg hnw).symm
    have hP9 := hP.sub (ws' := [(h0, .inr (1, [.ref mk, .int lf, .int rt, .int X, .int Y])), (mk, .inl (cM, 4, .inl g))]) [0, 1] rfl
    have hD9 := hD.sub (ws' := [(h0, .inr (1, [.ref mk, .int lf, .int rt, .int X, .int Y])), (mk, .inl (cM, 4, .inl g))]) [0, 1] (by decide) rfl
    have hK9 := hK.sub (tys' := [(cM, .int)]) [0] rfl
    exact W.vret hx hb hr (fun t ht hW => ⟨⟨(X, Y), rfl, hfin, by rw [ht]; exact hP9, va_K.moved hW.alike hK9, hD9⟩, hS.F ht⟩) hS.2.2 dX1_opens_111
set_option maxHeartbeats 4000000 in
set_option maxRecDepth 100000 in
/-- lock -/
theorem metX1_lock (l : Launch) (dC : Nat → ClassId) (dI : Nat → Nat → Nat) (h0 mk : Nat) (cM : ClassId) (g : Nat → Int32) (lf rt ol oo : Int32) (kd : Int32) (sz : Nat) : Met l yX1_lock (ws_ yX1_lock cX1_lock 2 none) ({ frames := 2, cells := 0, slots := 0, locals := 60 }) (va_Pc [.ref h0, .int kd] (fun U => U.heap.size = sz ∧ va_P (dC, dI) vwCl [(h0, .inr (1, [.ref mk, .int lf, .int rt, .int ol, .int oo])), (mk, .inl (cM, 4, .inl g))] U.heap ∧ va_K (dC, dI) vwCl [(cM, .int)] U ∧ va_D (fun _ => True) [(h0, .inr (1, [.ref mk, .int lf, .int rt, .int ol, .int oo])), (mk, .inl (cM, 4, .inl g))])) (va_Qv (fun u : Int32 × Int32 => u = tq_E kd g lf rt) (fun u t => va_P (dC, dI) vwCl [(h0, .inr (1, [.ref mk, .int lf, .int rt, .int u.1, .int u.2])), (mk, .inl (cM, 4, .inl g))] t.heap ∧ va_K (dC, dI) vwCl [(cM, .int)] t ∧ va_D (va_A [(h0, .inr (1, [.ref mk, .int lf, .int rt, .int ol, .int oo])), (mk, .inl (cM, 4, .inl g))] sz) [(h0, .inr (1, [.ref mk, .int lf, .int rt, .int u.1, .int u.2])), (mk, .inl (cM, 4, .inl g))]) (va_A [(h0, .inr (1, [.ref mk, .int lf, .int rt, .int ol, .int oo])), (mk, .inl (cM, 4, .inl g))] sz)) 0 0 (va_A [(h0, .inr (1, [.ref mk, .int lf, .int rt, .int ol, .int oo])), (mk, .inl (cM, 4, .inl g))] sz) := by
  refine Met.ofW (cc := cX1_lock) (maxL := 2) (ret := none) (by decide) rfl ?_
  intro p e s m args below meth c s₁ B hml hv
  obtain ⟨rfl, hsz, hP, hK, hD0⟩ := hv
  have hx := B.exec
  have hb := B.bytes
  have hr := B.returns
  have hts := atoms_spec (ws := ws_ yX1_lock cX1_lock 2 none) B.pre
  have hts : ∀ w ∈ lw_all, w.before _ s = true := fun w h => hts w (List.mem_cons_of_mem _ h)
  have hown : s.vm.findClass RX1 = some m.cls := findClass_of_methodNamed B.named
  have hlocks := B.notSynchronized
  subst hsz
  have hD := hD0.self (sz := s.heap.size)
  generalize hAe : va_A [(h0, .inr (1, [.ref mk, .int lf, .int rt, .int ol, .int oo])), (mk, .inl (cM, 4, .inl g))] s.heap.size = A at hD ⊢
  have hA : ∀ q : Nat, s.heap.size ≤ q → A q := fun q h => by rw [← hAe]; exact Or.inr h
  have hS : va_S A s.heap s.heap [] := va_S.rf
  have hl := lv_entry ([.ref h0, .int kd]) (n := 2) (Nat.le_of_ble_eq_true rfl)
  rw [lg_entry_eq]
  generalize (lg_sl ([.ref h0, .int kd]) ++ List.replicate (2 - (lg_sl ([.ref h0, .int kd])).length) Slot.unset).toArray = ls at hl ⊢
  have hl : lv_has ls 2 [(0, .ref h0), (1, .int kd)] := hl
  have hP : va_P (dC, dI) vwCl [(h0, .inr (1, [.ref mk, .int lf, .int rt, .int ol, .int oo])), (mk, .inl (cM, 4, .inl g))] s.heap := hP
  refine lv_aload_n hx hb dX1_lock_0 rfl (lv_at hl 0 rfl) ?_
  refine lv_iload_n hx hb dX1_lock_1 rfl (lv_at hl 1 rfl) ?_
  refine lv_iconst (v := 4) hx hb dX1_lock_2 (by decide) ?_
  refine lv_iand hx hb dX1_lock_3 ?_
  refine lv_if_eq (tgt := 11) hx hb dX1_lock_4 (by decide) (fun h9 => ?_) (fun h9 => ?_)
  · refine lv_iconst (v := 0) hx hb dX1_lock_11 (by decide) ?_
    have hPc := hP.sub (ws' := [(h0, .inr (1, [.ref mk, .int lf, .int rt, .int ol, .int oo])), (mk, .inl (cM, 4, .inl g))]) [0, 1] rfl
    have hDc := hD.sub (ws' := [(h0, .inr (1, [.ref mk, .int lf, .int rt, .int ol, .int oo])), (mk, .inl (cM, 4, .inl g))]) [0, 1] (by decide) rfl
    have hKc := hK.sub (tys' := [(cM, .int)]) [0] rfl
    have hFc := va_free (wc := [(h0, .inr (1, [.ref mk, .int lf, .int rt, .int ol, .int oo])), (mk, .inl (cM, 4, .inl g))]) hD hS hA [0, 1] rfl
    refine va_callv (va_runV (As := [.int 0]) (rest := []) ⟨hx, hb, hml, hown, hts⟩ (metX1_locks l dC dI h0 mk cM g lf rt ol oo 0 s.heap.size) (cwV 1 hts (lw_V q398 q400 qs12 q18 q401) rfl rfl rfl (by decide +kernel) ⟨Nat.le_of_ble_eq_true rfl, Nat.le_of_ble_eq_true rfl⟩) ⟨fun a U g mk q => by obtain ⟨q0, q1, qP, qK, qD⟩ := q; exact ⟨q0, q1, qP, va_K.moved (u := U) (U := U.calling g mk a) (Vm.Alike.refl U.vm) qK, qD⟩, va_recv hK hP (ci := 1) (q0 := 0) rfl rfl, fun U hU hW => ⟨rfl, by rw [hU], by rw [hU]; exact hPc, va_K.moved hW.alike hKc, hDc.weaken (fun _ _ _ _ => trivial)⟩⟩ rfl rfl hl.1 rfl (lv_room (Nat.le_of_ble_eq_true rfl)) dX1_lock_12 ⟨Nat.le_of_ble_eq_true rfl, Nat.le_of_ble_eq_true rfl⟩) hS (fun q _ h => hFc q h) hFc (fun u t H1 locs ht hvm hw hB hzz hk1 hS => ?_)
    obtain ⟨hP1, hK1, hD1⟩ := hB
    rw [ht] at hP1
    obtain ⟨hP, hD⟩ := va_join (wr := []) (w1 := [(h0, .inr (1, [.ref mk, .int lf, .int rt, .int u.1, .int u.2])), (mk, .inl (cM, 4, .inl g))]) hP hD [0, 1] [] rfl rfl (by decide) (by decide) hk1 hFc hP1 hD1
    generalize H1 = H at hP hS ⊢
    have hP : va_P (dC, dI) vwCl [(h0, .inr (1, [.ref mk, .int lf, .int rt, .int u.1, .int u.2])), (mk, .inl (cM, 4, .inl g))] H := hP
    have hD : va_D A [(h0, .inr (1, [.ref mk, .int lf, .int rt, .int u.1, .int u.2])), (mk, .inl (cM, 4, .inl g))] := hD
    have hfin : u = tq_E kd g lf rt := hw.trans ((if_pos (by decide)).trans (if_pos h9).symm)
    have hP9 := hP.sub (ws' := [(h0, .inr (1, [.ref mk, .int lf, .int rt, .int u.1, .int u.2])), (mk, .inl (cM, 4, .inl g))]) [0, 1] rfl
    have hD9 := hD.sub (ws' := [(h0, .inr (1, [.ref mk, .int lf, .int rt, .int u.1, .int u.2])), (mk, .inl (cM, 4, .inl g))]) [0, 1] (by decide) rfl
    have hK9 := hK.sub (tys' := [(cM, .int)]) [0] rfl
    exact W.vret hx hb hr (fun t ht hW => ⟨⟨u, rfl, hfin, by rw [ht]; exact hP9, va_K.moved hW.alike hK9, hD9⟩, hS.F ht⟩) hS.2.2 dX1_lock_15
  · refine lv_iconst (v := 1) hx hb dX1_lock_7 (by decide) ?_
    refine lv_goto (tgt := 12) hx hb dX1_lock_8 (by decide) ?_
    have hPc := hP.sub (ws' := [(h0, .inr (1, [.ref mk, .int lf, .int rt, .int ol, .int oo])), (mk, .inl (cM, 4, .inl g))]) [0, 1] rfl
    have hDc := hD.sub (ws' := [(h0, .inr (1, [.ref mk, .int lf, .int rt, .int ol, .int oo])), (mk, .inl (cM, 4, .inl g))]) [0, 1] (by decide) rfl
    have hKc := hK.sub (tys' := [(cM, .int)]) [0] rfl
    have hFc := va_free (wc := [(h0, .inr (1, [.ref mk, .int lf, .int rt, .int ol, .int oo])), (mk, .inl (cM, 4, .inl g))]) hD hS hA [0, 1] rfl
    refine va_callv (va_runV (As := [.int 1]) (rest := []) ⟨hx, hb, hml, hown, hts⟩ (metX1_locks l dC dI h0 mk cM g lf rt ol oo 1 s.heap.size) (cwV 1 hts (lw_V q398 q400 qs12 q18 q401) rfl rfl rfl (by decide +kernel) ⟨Nat.le_of_ble_eq_true rfl, Nat.le_of_ble_eq_true rfl⟩) ⟨fun a U g mk q => by obtain ⟨q0, q1, qP, qK, qD⟩ := q; exact ⟨q0, q1, qP, va_K.moved (u := U) (U := U.calling g mk a) (Vm.Alike.refl U.vm) qK, qD⟩, va_recv hK hP (ci := 1) (q0 := 0) rfl rfl, fun U hU hW => ⟨rfl, by rw [hU], by rw [hU]; exact hPc, va_K.moved hW.alike hKc, hDc.weaken (fun _ _ _ _ => trivial)⟩⟩ rfl rfl hl.1 rfl (lv_room (Nat.le_of_ble_eq_true rfl)) dX1_lock_12 ⟨Nat.le_of_ble_eq_true rfl, Nat.le_of_ble_eq_true rfl⟩) hS (fun q _ h => hFc q h) hFc (fun u t H1 locs ht hvm hw hB hzz hk1 hS => ?_)
    obtain ⟨hP1, hK1, hD1⟩ := hB
    rw [ht] at hP1
    obtain ⟨hP, hD⟩ := va_join (wr := []) (w1 := [(h0, .inr (1, [.ref mk, .int lf, .int rt, .int u.1, .int u.2])), (mk, .inl (cM, 4, .inl g))]) hP hD [0, 1] [] rfl rfl (by decide) (by decide) hk1 hFc hP1 hD1
    generalize H1 = H at hP hS ⊢
    have hP : va_P (dC, dI) vwCl [(h0, .inr (1, [.ref mk, .int lf, .int rt, .int u.1, .int u.2])), (mk, .inl (cM, 4, .inl g))] H := hP
    have hD : va_D A [(h0, .inr (1, [.ref mk, .int lf, .int rt, .int u.1, .int u.2])), (mk, .inl (cM, 4, .inl g))] := hD
    have hfin : u = tq_E kd g lf rt := hw.trans ((if_neg (by decide)).trans (if_neg h9).symm)
    have hP9 := hP.sub (ws' := [(h0, .inr (1, [.ref mk, .int lf, .int rt, .int u.1, .int u.2])), (mk, .inl (cM, 4, .inl g))]) [0, 1] rfl
    have hD9 := hD.sub (ws' := [(h0, .inr (1, [.ref mk, .int lf, .int rt, .int u.1, .int u.2])), (mk, .inl (cM, 4, .inl g))]) [0, 1] (by decide) rfl
    have hK9 := hK.sub (tys' := [(cM, .int)]) [0] rfl
    exact W.vret hx hb hr (fun t ht hW => ⟨⟨u, rfl, hfin, by rw [ht]; exact hP9, va_K.moved hW.alike hK9, hD9⟩, hS.F ht⟩) hS.2.2 dX1_lock_15
set_option maxHeartbeats 4000000 in
set_option maxRecDepth 100000 in
/-- open -/
theorem metX1_open (l : Launch) (dC : Nat → ClassId) (dI : Nat → Nat → Nat) (h0 mk : Nat) (cM : ClassId) (g : Nat → Int32) (lf rt ol oo : Int32) (kd : Int32) (sz : Nat) : Met l yX1_open (ws_ yX1_open cX1_open 2 none) ({ frames := 2, cells := 0, slots := 0, locals := 60 }) (va_Pc [.ref h0, .int kd] (fun U => U.heap.size = sz ∧ va_P (dC, dI) vwCl [(h0, .inr (1, [.ref mk, .int lf, .int rt, .int ol, .int oo])), (mk, .inl (cM, 4, .inl g))] U.heap ∧ va_K (dC, dI) vwCl [(cM, .int)] U ∧ va_D (fun _ => True) [(h0, .inr (1, [.ref mk, .int lf, .int rt, .int ol, .int oo])), (mk, .inl (cM, 4, .inl g))])) (va_Qv (fun u : Int32 × Int32 => u = tq_D kd g lf rt) (fun u t => va_P (dC, dI) vwCl [(h0, .inr (1, [.ref mk, .int lf, .int rt, .int u.1, .int u.2])), (mk, .inl (cM, 4, .inl g))] t.heap ∧ va_K (dC, dI) vwCl [(cM, .int)] t ∧ va_D (va_A [(h0, .inr (1, [.ref mk, .int lf, .int rt, .int ol, .int oo])), (mk, .inl (cM, 4, .inl g))] sz) [(h0, .inr (1, [.ref mk, .int lf, .int rt, .int u.1, .int u.2])), (mk, .inl (cM, 4, .inl g))]) (va_A [(h0, .inr (1, [.ref mk, .int lf, .int rt, .int ol, .int oo])), (mk, .inl (cM, 4, .inl g))] sz)) 0 0 (va_A [(h0, .inr (1, [.ref mk, .int lf, .int rt, .int ol, .int oo])), (mk, .inl (cM, 4, .inl g))] sz) := by
  refine Met.ofW (cc := cX1_open) (maxL := 2) (ret := none) (by decide) rfl ?_
  intro p e s m args below meth c s₁ B hml hv
  obtain ⟨rfl, hsz, hP, hK, hD0⟩ := hv
  have hx := B.exec
  have hb := B.bytes
  have hr := B.returns
  have hts := atoms_spec (ws := ws_ yX1_open cX1_open 2 none) B.pre
  have hts : ∀ w ∈ lw_all, w.before _ s = true := fun w h => hts w (List.mem_cons_of_mem _ h)
  have hown : s.vm.findClass RX1 = some m.cls := findClass_of_methodNamed B.named
  have hlocks := B.notSynchronized
  subst hsz
  have hD := hD0.self (sz := s.heap.size)
  generalize hAe : va_A [(h0, .inr (1, [.ref mk, .int lf, .int rt, .int ol, .int oo])), (mk, .inl (cM, 4, .inl g))] s.heap.size = A at hD ⊢
  have hA : ∀ q : Nat, s.heap.size ≤ q → A q := fun q h => by rw [← hAe]; exact Or.inr h
  have hS : va_S A s.heap s.heap [] := va_S.rf
  have hl := lv_entry ([.ref h0, .int kd]) (n := 2) (Nat.le_of_ble_eq_true rfl)
  rw [lg_entry_eq]
  generalize (lg_sl ([.ref h0, .int kd]) ++ List.replicate (2 - (lg_sl ([.ref h0, .int kd])).length) Slot.unset).toArray = ls at hl ⊢
  have hl : lv_has ls 2 [(0, .ref h0), (1, .int kd)] := hl
  have hP : va_P (dC, dI) vwCl [(h0, .inr (1, [.ref mk, .int lf, .int rt, .int ol, .int oo])), (mk, .inl (cM, 4, .inl g))] s.heap := hP
  refine lv_aload_n hx hb dX1_open_0 rfl (lv_at hl 0 rfl) ?_
  refine lv_iload_n hx hb dX1_open_1 rfl (lv_at hl 1 rfl) ?_
  refine lv_iconst (v := 4) hx hb dX1_open_2 (by decide) ?_
  refine lv_iand hx hb dX1_open_3 ?_
  refine lv_if_eq (tgt := 11) hx hb dX1_open_4 (by decide) (fun h9 => ?_) (fun h9 => ?_)
  · refine lv_iconst (v := 0) hx hb dX1_open_11 (by decide) ?_
    have hPc := hP.sub (ws' := [(h0, .inr (1, [.ref mk, .int lf, .int rt, .int ol, .int oo])), (mk, .inl (cM, 4, .inl g))]) [0, 1] rfl
    have hDc := hD.sub (ws' := [(h0, .inr (1, [.ref mk, .int lf, .int rt, .int ol, .int oo])), (mk, .inl (cM, 4, .inl g))]) [0, 1] (by decide) rfl
    have hKc := hK.sub (tys' := [(cM, .int)]) [0] rfl
    have hFc := va_free (wc := [(h0, .inr (1, [.ref mk, .int lf, .int rt, .int ol, .int oo])), (mk, .inl (cM, 4, .inl g))]) hD hS hA [0, 1] rfl
    refine va_callv (va_runV (As := [.int 0]) (rest := []) ⟨hx, hb, hml, hown, hts⟩ (metX1_opens l dC dI h0 mk cM g lf rt ol oo 0 s.heap.size) (cwV 1 hts (lw_V q415 q417 qs15 q18 q418) rfl rfl rfl (by decide +kernel) ⟨Nat.le_of_ble_eq_true rfl, Nat.le_of_ble_eq_true rfl⟩) ⟨fun a U g mk q => by obtain ⟨q0, q1, qP, qK, qD⟩ := q; exact ⟨q0, q1, qP, va_K.moved (u := U) (U := U.calling g mk a) (Vm.Alike.refl U.vm) qK, qD⟩, va_recv hK hP (ci := 1) (q0 := 0) rfl rfl, fun U hU hW => ⟨rfl, by rw [hU], by rw [hU]; exact hPc, va_K.moved hW.alike hKc, hDc.weaken (fun _ _ _ _ => trivial)⟩⟩ rfl rfl hl.1 rfl (lv_room (Nat.le_of_ble_eq_true rfl)) dX1_open_12 ⟨Nat.le_of_ble_eq_true rfl, Nat.le_of_ble_eq_true rfl⟩) hS (fun q _ h => hFc q h) hFc (fun u t H1 locs ht hvm hw hB hzz hk1 hS => ?_)
    obtain ⟨hP1, hK1, hD1⟩ := hB
    rw [ht] at hP1
    obtain ⟨hP, hD⟩ := va_join (wr := []) (w1 := [(h0, .inr (1, [.ref mk, .int lf, .int rt, .int u.1, .int u.2])), (mk, .inl (cM, 4, .inl g))]) hP hD [0, 1] [] rfl rfl (by decide) (by decide) hk1 hFc hP1 hD1
    generalize H1 = H at hP hS ⊢
    have hP : va_P (dC, dI) vwCl [(h0, .inr (1, [.ref mk, .int lf, .int rt, .int u.1, .int u.2])), (mk, .inl (cM, 4, .inl g))] H := hP
    have hD : va_D A [(h0, .inr (1, [.ref mk, .int lf, .int rt, .int u.1, .int u.2])), (mk, .inl (cM, 4, .inl g))] := hD
    have hfin : u = tq_D kd g lf rt := hw.trans ((if_pos (by decide)).trans (if_pos h9).symm)
    have hP9 := hP.sub (ws' := [(h0, .inr (1, [.ref mk, .int lf, .int rt, .int u.1, .int u.2])), (mk, .inl (cM, 4, .inl g))]) [0, 1] rfl
    have hD9 := hD.sub (ws' := [(h0, .inr (1, [.ref mk, .int lf, .int rt, .int u.1, .int u.2])), (mk, .inl (cM, 4, .inl g))]) [0, 1] (by decide) rfl
    have hK9 := hK.sub (tys' := [(cM, .int)]) [0] rfl
    exact W.vret hx hb hr (fun t ht hW => ⟨⟨u, rfl, hfin, by rw [ht]; exact hP9, va_K.moved hW.alike hK9, hD9⟩, hS.F ht⟩) hS.2.2 dX1_open_15
  · refine lv_iconst (v := 1) hx hb dX1_open_7 (by decide) ?_
    refine lv_goto (tgt := 12) hx hb dX1_open_8 (by decide) ?_
    have hPc := hP.sub (ws' := [(h0, .inr (1, [.ref mk, .int lf, .int rt, .int ol, .int oo])), (mk, .inl (cM, 4, .inl g))]) [0, 1] rfl
    have hDc := hD.sub (ws' := [(h0, .inr (1, [.ref mk, .int lf, .int rt, .int ol, .int oo])), (mk, .inl (cM, 4, .inl g))]) [0, 1] (by decide) rfl
    have hKc := hK.sub (tys' := [(cM, .int)]) [0] rfl
    have hFc := va_free (wc := [(h0, .inr (1, [.ref mk, .int lf, .int rt, .int ol, .int oo])), (mk, .inl (cM, 4, .inl g))]) hD hS hA [0, 1] rfl
    refine va_callv (va_runV (As := [.int 1]) (rest := []) ⟨hx, hb, hml, hown, hts⟩ (metX1_opens l dC dI h0 mk cM g lf rt ol oo 1 s.heap.size) (cwV 1 hts (lw_V q415 q417 qs15 q18 q418) rfl rfl rfl (by decide +kernel) ⟨Nat.le_of_ble_eq_true rfl, Nat.le_of_ble_eq_true rfl⟩) ⟨fun a U g mk q => by obtain ⟨q0, q1, qP, qK, qD⟩ := q; exact ⟨q0, q1, qP, va_K.moved (u := U) (U := U.calling g mk a) (Vm.Alike.refl U.vm) qK, qD⟩, va_recv hK hP (ci := 1) (q0 := 0) rfl rfl, fun U hU hW => ⟨rfl, by rw [hU], by rw [hU]; exact hPc, va_K.moved hW.alike hKc, hDc.weaken (fun _ _ _ _ => trivial)⟩⟩ rfl rfl hl.1 rfl (lv_room (Nat.le_of_ble_eq_true rfl)) dX1_open_12 ⟨Nat.le_of_ble_eq_true rfl, Nat.le_of_ble_eq_true rfl⟩) hS (fun q _ h => hFc q h) hFc (fun u t H1 locs ht hvm hw hB hzz hk1 hS => ?_)
    obtain ⟨hP1, hK1, hD1⟩ := hB
    rw [ht] at hP1
    obtain ⟨hP, hD⟩ := va_join (wr := []) (w1 := [(h0, .inr (1, [.ref mk, .int lf, .int rt, .int u.1, .int u.2])), (mk, .inl (cM, 4, .inl g))]) hP hD [0, 1] [] rfl rfl (by decide) (by decide) hk1 hFc hP1 hD1
    generalize H1 = H at hP hS ⊢
    have hP : va_P (dC, dI) vwCl [(h0, .inr (1, [.ref mk, .int lf, .int rt, .int u.1, .int u.2])), (mk, .inl (cM, 4, .inl g))] H := hP
    have hD : va_D A [(h0, .inr (1, [.ref mk, .int lf, .int rt, .int u.1, .int u.2])), (mk, .inl (cM, 4, .inl g))] := hD
    have hfin : u = tq_D kd g lf rt := hw.trans ((if_neg (by decide)).trans (if_neg h9).symm)
    have hP9 := hP.sub (ws' := [(h0, .inr (1, [.ref mk, .int lf, .int rt, .int u.1, .int u.2])), (mk, .inl (cM, 4, .inl g))]) [0, 1] rfl
    have hD9 := hD.sub (ws' := [(h0, .inr (1, [.ref mk, .int lf, .int rt, .int u.1, .int u.2])), (mk, .inl (cM, 4, .inl g))]) [0, 1] (by decide) rfl
    have hK9 := hK.sub (tys' := [(cM, .int)]) [0] rfl
    exact W.vret hx hb hr (fun t ht hW => ⟨⟨u, rfl, hfin, by rw [ht]; exact hP9, va_K.moved hW.alike hK9, hD9⟩, hS.F ht⟩) hS.2.2 dX1_open_15
set_option maxHeartbeats 4000000 in
set_option maxRecDepth 100000 in
/-- key: the four words, or nothing -/
theorem metX1_key (l : Launch) (dC : Nat → ClassId) (dI : Nat → Nat → Nat) (h0 mk : Nat) (cM : ClassId) (g : Nat → Int32) (lf rt ol oo : Int32) (hf a1 a2 a3 a4 : Int32) (sz : Nat) : Met l yX1_key (ws_ yX1_key cX1_key 6 none) ({ frames := 0, cells := 0, slots := 0, locals := 0 }) (va_Pc [.ref h0, .int hf, .int a1, .int a2, .int a3, .int a4] (fun U => U.heap.size = sz ∧ va_P (dC, dI) vwCl [(h0, .inr (1, [.ref mk, .int lf, .int rt, .int ol, .int oo])), (mk, .inl (cM, 4, .inl g))] U.heap ∧ va_K (dC, dI) vwCl [(cM, .int)] U ∧ va_D (fun _ => True) [(h0, .inr (1, [.ref mk, .int lf, .int rt, .int ol, .int oo])), (mk, .inl (cM, 4, .inl g))])) (va_Qv (fun u : Nat → Int32 => (hf &&& 1 = 0 → u 0 = a1 ∧ u 1 = a2 ∧ u 2 = a3 ∧ u 3 = a4) ∧ (¬ hf &&& 1 = 0 → u = g)) (fun u t => va_P (dC, dI) vwCl [(h0, .inr (1, [.ref mk, .int lf, .int rt, .int ol, .int oo])), (mk, .inl (cM, 4, .inl u))] t.heap ∧ va_K (dC, dI) vwCl [(cM, .int)] t ∧ va_D (va_A [(h0, .inr (1, [.ref mk, .int lf, .int rt, .int ol, .int oo])), (mk, .inl (cM, 4, .inl g))] sz) [(h0, .inr (1, [.ref mk, .int lf, .int rt, .int ol, .int oo])), (mk, .inl (cM, 4, .inl u))]) (va_A [(h0, .inr (1, [.ref mk, .int lf, .int rt, .int ol, .int oo])), (mk, .inl (cM, 4, .inl g))] sz)) 0 0 (va_A [(h0, .inr (1, [.ref mk, .int lf, .int rt, .int ol, .int oo])), (mk, .inl (cM, 4, .inl g))] sz) := by
  refine Met.ofW (cc := cX1_key) (maxL := 6) (ret := none) (by decide) rfl ?_
  intro p e s m args below meth c s₁ B hml hv
  obtain ⟨rfl, hsz, hP, hK, hD0⟩ := hv
  have hx := B.exec
  have hb := B.bytes
  have hr := B.returns
  have hts := atoms_spec (ws := ws_ yX1_key cX1_key 6 none) B.pre
  have hts : ∀ w ∈ lw_all, w.before _ s = true := fun w h => hts w (List.mem_cons_of_mem _ h)
  have hown : s.vm.findClass RX1 = some m.cls := findClass_of_methodNamed B.named
  have hlocks := B.notSynchronized
  subst hsz
  have hD := hD0.self (sz := s.heap.size)
  generalize hAe : va_A [(h0, .inr (1, [.ref mk, .int lf, .int rt, .int ol, .int oo])), (mk, .inl (cM, 4, .inl g))] s.heap.size = A at hD ⊢
  have hA : ∀ q : Nat, s.heap.size ≤ q → A q := fun q h => by rw [← hAe]; exact Or.inr h
  have hS : va_S A s.heap s.heap [] := va_S.rf
  have hl := lv_entry ([.ref h0, .int hf, .int a1, .int a2, .int a3, .int a4]) (n := 6) (Nat.le_of_ble_eq_true rfl)
  rw [lg_entry_eq]
  generalize (lg_sl ([.ref h0, .int hf, .int a1, .int a2, .int a3, .int a4]) ++ List.replicate (6 - (lg_sl ([.ref h0, .int hf, .int a1, .int a2, .int a3, .int a4])).length) Slot.unset).toArray = ls at hl ⊢
  have hl : lv_has ls 6 [(0, .ref h0), (1, .int hf), (2, .int a1), (3, .int a2), (4, .int a3), (5, .int a4)] := hl
  have hP : va_P (dC, dI) vwCl [(h0, .inr (1, [.ref mk, .int lf, .int rt, .int ol, .int oo])), (mk, .inl (cM, 4, .inl g))] s.heap := hP
  refine lv_iload_n hx hb dX1_key_0 rfl (lv_at hl 1 rfl) ?_
  refine lv_iconst (v := 1) hx hb dX1_key_1 (by decide) ?_
  refine lv_iand hx hb dX1_key_2 ?_
  refine lv_if_ne (tgt := 36) hx hb dX1_key_3 (by decide) (fun h9 => ?_) (fun h9 => ?_)
  · have hP9 := hP.sub (ws' := [(h0, .inr (1, [.ref mk, .int lf, .int rt, .int ol, .int oo])), (mk, .inl (cM, 4, .inl g))]) [0, 1] rfl
    have hD9 := hD.sub (ws' := [(h0, .inr (1, [.ref mk, .int lf, .int rt, .int ol, .int oo])), (mk, .inl (cM, 4, .inl g))]) [0, 1] (by decide) rfl
    have hK9 := hK.sub (tys' := [(cM, .int)]) [0] rfl
    exact W.vret hx hb hr (fun t ht hW => ⟨⟨g, rfl, ⟨fun h => absurd h h9, fun _ => rfl⟩, by rw [ht]; exact hP9, va_K.moved hW.alike hK9, hD9⟩, hS.F ht⟩) hS.2.2 dX1_key_36
  · refine lv_aload_n hx hb dX1_key_6 rfl (lv_at hl 0 rfl) ?_
    refine va_get (D := (dC, dI)) (ci := 1) (v := .ref mk) (C := RX1) (T := TX1) (N := 5) hx hb hts in_X1 hown hK hP 0 rfl rfl 0 (by decide) (hts _ q370) (fun _ h9 => h9) rfl dX1_key_7 ?_
    refine lv_iconst (v := 0) hx hb dX1_key_10 (by decide) ?_
    refine tk_as (nI 0) (rfl) ?_
    refine lv_iload_n hx hb dX1_key_11 rfl (lv_at hl 2 rfl) ?_
    refine tk_ist (x := a1) hx hb hK hP hD hS 1 0 rfl rfl (0) (by omega) (by omega) dX1_key_12 (fun H locs hP hD hS => ?_)
    have hP : va_P (dC, dI) vwCl [(h0, .inr (1, [.ref mk, .int lf, .int rt, .int ol, .int oo])), (mk, .inl (cM, 4, .inl (upd g 0 a1)))] H := hP
    have hD : va_D A [(h0, .inr (1, [.ref mk, .int lf, .int rt, .int ol, .int oo])), (mk, .inl (cM, 4, .inl (upd g 0 a1)))] := hD
    obtain ⟨g1, eg1⟩ : ∃ g_9 : Nat → Int32, g_9 = upd g 0 a1 := ⟨_, rfl⟩
    rw [← eg1] at hP hD
    refine lv_aload_n hx hb dX1_key_13 rfl (lv_at hl 0 rfl) ?_
    refine va_get (D := (dC, dI)) (ci := 1) (v := .ref mk) (C := RX1) (T := TX1) (N := 5) hx hb hts in_X1 hown hK hP 0 rfl rfl 0 (by decide) (hts _ q370) (fun _ h9 => h9) rfl dX1_key_14 ?_
    refine lv_iconst (v := 1) hx hb dX1_key_17 (by decide) ?_
    refine tk_as (nI 1) (rfl) ?_
    refine lv_iload_n hx hb dX1_key_18 rfl (lv_at hl 3 rfl) ?_
    refine tk_ist (x := a2) hx hb hK hP hD hS 1 0 rfl rfl (1) (by omega) (by omega) dX1_key_19 (fun H locs hP hD hS => ?_)
    have hP : va_P (dC, dI) vwCl [(h0, .inr (1, [.ref mk, .int lf, .int rt, .int ol, .int oo])), (mk, .inl (cM, 4, .inl (upd g1 1 a2)))] H := hP
    have hD : va_D A [(h0, .inr (1, [.ref mk, .int lf, .int rt, .int ol, .int oo])), (mk, .inl (cM, 4, .inl (upd g1 1 a2)))] := hD
    obtain ⟨g2, eg2⟩ : ∃ g_9 : Nat → Int32, g_9 = upd g1 1 a2 := ⟨_, rfl⟩
    rw [← eg2] at hP hD
    refine lv_aload_n hx hb dX1_key_20 rfl (lv_at hl 0 rfl) ?_
    refine va_get (D := (dC, dI)) (ci := 1) (v := .ref mk) (C := RX1) (T := TX1) (N := 5) hx hb hts in_X1 hown hK hP 0 rfl rfl 0 (by decide) (hts _ q370) (fun _ h9 => h9) rfl dX1_key_21 ?_
    refine lv_iconst (v := 2) hx hb dX1_key_24 (by decide) ?_
    refine tk_as (nI 2) (rfl) ?_
    refine lv_iload hx hb dX1_key_25 (lv_at hl 4 rfl) ?_
    refine tk_ist (x := a3) hx hb hK hP hD hS 1 0 rfl rfl (2) (by omega) (by omega) dX1_key_27 (fun H locs hP hD hS => ?_)
    have hP : va_P (dC, dI) vwCl [(h0, .inr (1, [.ref mk, .int lf, .int rt, .int ol, .int oo])), (mk, .inl (cM, 4, .inl (upd g2 2 a3)))] H := hP
    have hD : va_D A [(h0, .inr (1, [.ref mk, .int lf, .int rt, .int ol, .int oo])), (mk, .inl (cM, 4, .inl (upd g2 2 a3)))] := hD
    obtain ⟨g3, eg3⟩ : ∃ g_9 : Nat → Int32, g_9 = upd g2 2 a3 := ⟨_, rfl⟩
    rw [← eg3] at hP hD
    refine lv_aload_n hx hb dX1_key_28 rfl (lv_at hl 0 rfl) ?_
    refine va_get (D := (dC, dI)) (ci := 1) (v := .ref mk) (C := RX1) (T := TX1) (N := 5) hx hb hts in_X1 hown hK hP 0 rfl rfl 0 (by decide) (hts _ q370) (fun _ h9 => h9) rfl dX1_key_29 ?_
    refine lv_iconst (v := 3) hx hb dX1_key_32 (by decide) ?_
    refine tk_as (nI 3) (rfl) ?_
    refine lv_iload hx hb dX1_key_33 (lv_at hl 5 rfl) ?_
    refine tk_ist (x := a4) hx hb hK hP hD hS 1 0 rfl rfl (3) (by omega) (by omega) dX1_key_35 (fun H locs hP hD hS => ?_)
    have hP : va_P (dC, dI) vwCl [(h0, .inr (1, [.ref mk, .int lf, .int rt, .int ol, .int oo])), (mk, .inl (cM, 4, .inl (upd g3 3 a4)))] H := hP
    have hD : va_D A [(h0, .inr (1, [.ref mk, .int lf, .int rt, .int ol, .int oo])), (mk, .inl (cM, 4, .inl (upd g3 3 a4)))] := hD
    obtain ⟨g4, eg4⟩ : ∃ g_9 : Nat → Int32, g_9 = upd g3 3 a4 := ⟨_, rfl⟩
    rw [← eg4] at hP hD
    have hfin : g4 0 = a1 ∧ g4 1 = a2 ∧ g4 2 = a3 ∧ g4 3 = a4 := by
      rw [eg4, eg3, eg2, eg1]
      exact ⟨rfl, rfl, rfl, rfl⟩
    have hP9 := hP.sub (ws' := [(h0, .inr (1, [.ref mk, .int lf, .int rt, .int ol, .int oo])), (mk, .inl (cM, 4, .inl g4))]) [0, 1] rfl
    have hD9 := hD.sub (ws' := [(h0, .inr (1, [.ref mk, .int lf, .int rt, .int ol, .int oo])), (mk, .inl (cM, 4, .inl g4))]) [0, 1] (by decide) rfl
    have hK9 := hK.sub (tys' := [(cM, .int)]) [0] rfl
    exact W.vret hx hb hr (fun t ht hW => ⟨⟨g4, rfl, ⟨fun _ => hfin, fun h => absurd h9 h⟩, by rw [ht]; exact hP9, va_K.moved hW.alike hK9, hD9⟩, hS.F ht⟩) hS.2.2 dX1_key_36
set_option maxHeartbeats 4000000 in
set_option maxRecDepth 100000 in
/-- block: both words -/
theorem metX1_block (l : Launch) (dC : Nat → ClassId) (dI : Nat → Nat → Nat) (h0 mk : Nat) (lf rt ol oo : Int32) (a1 a2 : Int32) (sz : Nat) : Met l yX1_block (ws_ yX1_block cX1_block 3 none) ({ frames := 0, cells := 0, slots := 0, locals := 0 }) (va_Pc [.ref h0, .int a1, .int a2] (fun U => U.heap.size = sz ∧ va_P (dC, dI) vwCl [(h0, .inr (1, [.ref mk, .int lf, .int rt, .int ol, .int oo]))] U.heap ∧ va_K (dC, dI) vwCl [] U ∧ va_D (fun _ => True) [(h0, .inr (1, [.ref mk, .int lf, .int rt, .int ol, .int oo]))])) (va_Qv (fun _ : Unit => True) (fun _ t => va_P (dC, dI) vwCl [(h0, .inr (1, [.ref mk, .int a1, .int a2, .int ol, .int oo]))] t.heap ∧ va_K (dC, dI) vwCl [] t ∧ va_D (va_A [(h0, .inr (1, [.ref mk, .int lf, .int rt, .int ol, .int oo]))] sz) [(h0, .inr (1, [.ref mk, .int a1, .int a2, .int ol, .int oo]))]) (va_A [(h0, .inr (1, [.ref mk, .int lf, .int rt, .int ol, .int oo]))] sz)) 0 0 (va_A [(h0, .inr (1, [.ref mk, .int lf, .int rt, .int ol, .int oo]))] sz) := by
  refine Met.ofW (cc := cX1_block) (maxL := 3) (ret := none) (by decide) rfl ?_
  intro p e s m args below meth c s₁ B hml hv
  obtain ⟨rfl, hsz, hP, hK, hD0⟩ := hv
  have hx := B.exec
  have hb := B.bytes
  have hr := B.returns
  have hts := atoms_spec (ws := ws_ yX1_block cX1_block 3 none) B.pre
  have hts : ∀ w ∈ lw_all, w.before _ s = true := fun w h => hts w (List.mem_cons_of_mem _ h)
  have hown : s.vm.findClass RX1 = some m.cls := findClass_of_methodNamed B.named
  have hlocks := B.notSynchronized
  subst hsz
  have hD := hD0.self (sz := s.heap.size)
  generalize hAe : va_A [(h0, .inr (1, [.ref mk, .int lf, .int rt, .int ol, .int oo]))] s.heap.size = A at hD ⊢
  have hA : ∀ q : Nat, s.heap.size ≤ q → A q := fun q h => by rw [← hAe]; exact Or.inr h
  have hS : va_S A s.heap s.heap [] := va_S.rf
  have hl := lv_entry ([.ref h0, .int a1, .int a2]) (n := 3) (Nat.le_of_ble_eq_true rfl)
  rw [lg_entry_eq]
  generalize (lg_sl ([.ref h0, .int a1, .int a2]) ++ List.replicate (3 - (lg_sl ([.ref h0, .int a1, .int a2])).length) Slot.unset).toArray = ls at hl ⊢
  have hl : lv_has ls 3 [(0, .ref h0), (1, .int a1), (2, .int a2)] := hl
  have hP : va_P (dC, dI) vwCl [(h0, .inr (1, [.ref mk, .int lf, .int rt, .int ol, .int oo]))] s.heap := hP
  refine lv_aload_n hx hb dX1_block_0 rfl (lv_at hl 0 rfl) ?_
  refine lv_iload_n hx hb dX1_block_1 rfl (lv_at hl 1 rfl) ?_
  refine va_put (D := (dC, dI)) (ci := 1) (v := .int a1) (ty := .int) (C := RX1) (T := TX1) (N := 5) hx hb hts in_X1 tyX1 tyX1_ok nmX1 hown hK hP hD hS 0 rfl rfl 1 (by decide) (hts _ q371) (fun _ h9 => h9) rfl (by decide +kernel) rfl rfl (Nat.le_of_ble_eq_true rfl) dX1_block_2 (fun H locs hP hD hS => ?_)
  have hP : va_P (dC, dI) vwCl [(h0, .inr (1, [.ref mk, .int a1, .int rt, .int ol, .int oo]))] H := hP
  have hD : va_D A [(h0, .inr (1, [.ref mk, .int a1, .int rt, .int ol, .int oo]))] := hD
  refine lv_aload_n hx hb dX1_block_5 rfl (lv_at hl 0 rfl) ?_
  refine lv_iload_n hx hb dX1_block_6 rfl (lv_at hl 2 rfl) ?_
  refine va_put (D := (dC, dI)) (ci := 1) (v := .int a2) (ty := .int) (C := RX1) (T := TX1) (N := 5) hx hb hts in_X1 tyX1 tyX1_ok nmX1 hown hK hP hD hS 0 rfl rfl 2 (by decide) (hts _ q372) (fun _ h9 => h9) rfl (by decide +kernel) rfl rfl (Nat.le_of_ble_eq_true rfl) dX1_block_7 (fun H locs hP hD hS => ?_)
  have hP : va_P (dC, dI) vwCl [(h0, .inr (1, [.ref mk, .int a1, .int a2, .int ol, .int oo]))] H := hP
  have hD : va_D A [(h0, .inr (1, [.ref mk, .int a1, .int a2, .int ol, .int oo]))] := hD
  have hP9 := hP.sub (ws' := [(h0, .inr (1, [.ref mk, .int a1, .int a2, .int ol, .int oo]))]) [0] rfl
  have hD9 := hD.sub (ws' := [(h0, .inr (1, [.ref mk, .int a1, .int a2, .int ol, .int oo]))]) [0] (by decide) rfl
  have hK9 := hK.sub (tys' := []) [] rfl
  exact W.vret hx hb hr (fun t ht hW => ⟨⟨(), rfl, trivial, by rw [ht]; exact hP9, va_K.moved hW.alike hK9, hD9⟩, hS.F ht⟩) hS.2.2 dX1_block_10
set_option maxHeartbeats 4000000 in
set_option maxRecDepth 100000 in
/-- again: the answer is the next block -/
theorem metX1_again (l : Launch) (dC : Nat → ClassId) (dI : Nat → Nat → Nat) (h0 mk : Nat) (lf rt ol oo : Int32) (sz : Nat) : Met l yX1_again (ws_ yX1_again cX1_again 1 none) ({ frames := 0, cells := 0, slots := 0, locals := 0 }) (va_Pc [.ref h0] (fun U => U.heap.size = sz ∧ va_P (dC, dI) vwCl [(h0, .inr (1, [.ref mk, .int lf, .int rt, .int ol, .int oo]))] U.heap ∧ va_K (dC, dI) vwCl [] U ∧ va_D (fun _ => True) [(h0, .inr (1, [.ref mk, .int lf, .int rt, .int ol, .int oo]))])) (va_Qv (fun _ : Unit => True) (fun _ t => va_P (dC, dI) vwCl [(h0, .inr (1, [.ref mk, .int ol, .int oo, .int ol, .int oo]))] t.heap ∧ va_K (dC, dI) vwCl [] t ∧ va_D (va_A [(h0, .inr (1, [.ref mk, .int lf, .int rt, .int ol, .int oo]))] sz) [(h0, .inr (1, [.ref mk, .int ol, .int oo, .int ol, .int oo]))]) (va_A [(h0, .inr (1, [.ref mk, .int lf, .int rt, .int ol, .int oo]))] sz)) 0 0 (va_A [(h0, .inr (1, [.ref mk, .int lf, .int rt, .int ol, .int oo]))] sz) := by
  refine Met.ofW (cc := cX1_again) (maxL := 1) (ret := none) (by decide) rfl ?_
  intro p e s m args below meth c s₁ B hml hv
  obtain ⟨rfl, hsz, hP, hK, hD0⟩ := hv
  have hx := B.exec
  have hb := B.bytes
  have hr := B.returns
  have hts := atoms_spec (ws := ws_ yX1_again cX1_again 1 none) B.pre
  have hts : ∀ w ∈ lw_all, w.before _ s = true := fun w h => hts w (List.mem_cons_of_mem _ h)
  have hown : s.vm.findClass RX1 = some m.cls := findClass_of_methodNamed B.named
  have hlocks := B.notSynchronized
  subst hsz
  have hD := hD0.self (sz := s.heap.size)
  generalize hAe : va_A [(h0, .inr (1, [.ref mk, .int lf, .int rt, .int ol, .int oo]))] s.heap.size = A at hD ⊢
  have hA : ∀ q : Nat, s.heap.size ≤ q → A q := fun q h => by rw [← hAe]; exact Or.inr h
  have hS : va_S A s.heap s.heap [] := va_S.rf
  have hl := lv_entry ([.ref h0]) (n := 1) (Nat.le_of_ble_eq_true rfl)
  rw [lg_entry_eq]
  generalize (lg_sl ([.ref h0]) ++ List.replicate (1 - (lg_sl ([.ref h0])).length) Slot.unset).toArray = ls at hl ⊢
  have hl : lv_has ls 1 [(0, .ref h0)] := hl
  have hP : va_P (dC, dI) vwCl [(h0, .inr (1, [.ref mk, .int lf, .int rt, .int ol, .int oo]))] s.heap := hP
  refine lv_aload_n hx hb dX1_again_0 rfl (lv_at hl 0 rfl) ?_
  refine lv_aload_n hx hb dX1_again_1 rfl (lv_at hl 0 rfl) ?_
  refine va_get (D := (dC, dI)) (ci := 1) (v := .int ol) (C := RX1) (T := TX1) (N := 5) hx hb hts in_X1 hown hK hP 0 rfl rfl 3 (by decide) (hts _ q373) (fun _ h9 => h9) rfl dX1_again_2 ?_
  refine va_put (D := (dC, dI)) (ci := 1) (v := .int ol) (ty := .int) (C := RX1) (T := TX1) (N := 5) hx hb hts in_X1 tyX1 tyX1_ok nmX1 hown hK hP hD hS 0 rfl rfl 1 (by decide) (hts _ q371) (fun _ h9 => h9) rfl (by decide +kernel) rfl rfl (Nat.le_of_ble_eq_true rfl) dX1_again_5 (fun H locs hP hD hS => ?_)
  have hP : va_P (dC, dI) vwCl [(h0, .inr (1, [.ref mk, .int ol, .int rt, .int ol, .int oo]))] H := hP
  have hD : va_D A [(h0, .inr (1, [.ref mk, .int ol, .int rt, .int ol, .int oo]))] := hD
  refine lv_aload_n hx hb dX1_again_8 rfl (lv_at hl 0 rfl) ?_
  refine lv_aload_n hx hb dX1_again_9 rfl (lv_at hl 0 rfl) ?_
  refine va_get (D := (dC, dI)) (ci := 1) (v := .int oo) (C := RX1) (T := TX1) (N := 5) hx hb hts in_X1 hown hK hP 0 rfl rfl 4 (by decide) (hts _ q374) (fun _ h9 => h9) rfl dX1_again_10 ?_
  refine va_put (D := (dC, dI)) (ci := 1) (v := .int oo) (ty := .int) (C := RX1) (T := TX1) (N := 5) hx hb hts in_X1 tyX1 tyX1_ok nmX1 hown hK hP hD hS 0 rfl rfl 2 (by decide) (hts _ q372) (fun _ h9 => h9) rfl (by decide +kernel) rfl rfl (Nat.le_of_ble_eq_true rfl) dX1_again_13 (fun H locs hP hD hS => ?_)
  have hP : va_P (dC, dI) vwCl [(h0, .inr (1, [.ref mk, .int ol, .int oo, .int ol, .int oo]))] H := hP
  have hD : va_D A [(h0, .inr (1, [.ref mk, .int ol, .int oo, .int ol, .int oo]))] := hD
  have hP9 := hP.sub (ws' := [(h0, .inr (1, [.ref mk, .int ol, .int oo, .int ol, .int oo]))]) [0] rfl
  have hD9 := hD.sub (ws' := [(h0, .inr (1, [.ref mk, .int ol, .int oo, .int ol, .int oo]))]) [0] (by decide) rfl
  have hK9 := hK.sub (tys' := []) [] rfl
  exact W.vret hx hb hr (fun t ht hW => ⟨⟨(), rfl, trivial, by rw [ht]; exact hP9, va_K.moved hW.alike hK9, hD9⟩, hS.F ht⟩) hS.2.2 dX1_again_16
set_option maxHeartbeats 4000000 in
set_option maxRecDepth 100000 in
/-- out: one byte -/
theorem metX1_out (l : Launch) (dC : Nat → ClassId) (dI : Nat → Nat → Nat) (h0 mk : Nat) (lf rt ol oo : Int32) (pl : Int32) : Met l yX1_out (ws_ yX1_out cX1_out 3 (some .int)) ({ frames := 0, cells := 0, slots := 0, locals := 0 }) (va_Pc [.ref h0, .int pl] (fun U => va_P (dC, dI) vwCl [(h0, .inr (1, [.ref mk, .int lf, .int rt, .int ol, .int oo]))] U.heap ∧ va_K (dC, dI) vwCl [] U)) (vp_Si (fun r => r = ((if (pl &&& 7).toNatClampNeg < 4 then ol else oo) >>> (nI (24 - 8 * ((pl &&& 7).toNatClampNeg % 4)) &&& 31)) &&& 255)) 0 0 (fun _ => False) := by
  refine Met.ofW (cc := cX1_out) (maxL := 3) (ret := (some .int)) (by decide) rfl ?_
  intro p e s m args below meth c s₁ B hml hv
  obtain ⟨rfl, hP, hK⟩ := hv
  have hx := B.exec
  have hb := B.bytes
  have hr := B.returns
  have hts := atoms_spec (ws := ws_ yX1_out cX1_out 3 (some .int)) B.pre
  have hts : ∀ w ∈ lw_all, w.before _ s = true := fun w h => hts w (List.mem_cons_of_mem _ h)
  have hown : s.vm.findClass RX1 = some m.cls := findClass_of_methodNamed B.named
  have hlocks := B.notSynchronized
  have hl := lv_entry ([.ref h0, .int pl]) (n := 3) (Nat.le_of_ble_eq_true rfl)
  rw [lg_entry_eq]
  generalize (lg_sl ([.ref h0, .int pl]) ++ List.replicate (3 - (lg_sl ([.ref h0, .int pl])).length) Slot.unset).toArray = ls at hl ⊢
  have hl : lv_has ls 3 [(0, .ref h0), (1, .int pl)] := hl
  obtain ⟨j, hj, ej⟩ := pk_andE pl (m := 7) 3 (by decide)
  have ec : (pl &&& 7).toNatClampNeg = j := by rw [ej]; exact nI_clamp (by omega)
  refine lv_iload_n hx hb dX1_out_0 rfl (lv_at hl 1 rfl) ?_
  refine lv_bipush (v := 7) hx hb dX1_out_1 (by decide) ?_
  refine lv_iand hx hb dX1_out_3 ?_
  refine tk_as (nI j) (ej) ?_
  refine lv_istore_n (lv' := [(2, .int (nI j)), (0, .ref h0), (1, .int pl)]) hx hb dX1_out_4 rfl hl (by decide) rfl (fun ls hl => ?_)
  refine lv_iload_n hx hb dX1_out_5 rfl (lv_at hl 0 rfl) ?_
  refine lv_iconst (v := 4) hx hb dX1_out_6 (by decide) ?_
  refine lv_icmp_ge (tgt := 17) hx hb dX1_out_7 (by decide) (fun h9 => ?_) (fun h9 => ?_)
  · have h8 : ¬ j < 4 := fun h => absurd h9 (nI_ge (a := j) (b := 4) h (by omega))
    refine lv_aload_n hx hb dX1_out_17 rfl (lv_at hl 1 rfl) ?_
    refine va_get (D := (dC, dI)) (ci := 1) (v := .int oo) (C := RX1) (T := TX1) (N := 5) hx hb hts in_X1 hown hK hP 0 rfl rfl 4 (by decide) (hts _ q374) (fun _ h9 => h9) rfl dX1_out_18 ?_
    refine lv_bipush (v := 24) hx hb dX1_out_21 (by decide) ?_
    refine lv_bipush (v := 8) hx hb dX1_out_23 (by decide) ?_
    refine lv_iload_n hx hb dX1_out_25 rfl (lv_at hl 0 rfl) ?_
    refine lv_iconst (v := 4) hx hb dX1_out_26 (by decide) ?_
    refine lv_irem hx hb dX1_out_27 (by decide) ?_
    refine tk_as (nI (j % 4)) (pk_rem (a := j) (d := 4) (by omega) (by omega) (by omega)) ?_
    refine lv_imul hx hb dX1_out_28 ?_
    refine tk_as (nI (8 * (j % 4))) (pk_mul 8 (j % 4)) ?_
    refine lv_isub hx hb dX1_out_29 ?_
    refine tk_as (nI (24 - 8 * (j % 4))) (pk_sub (a := 24) (b := 8 * (j % 4)) (by omega)) ?_
    refine lv_ishr hx hb dX1_out_30 ?_
    refine lv_sipush (v := 255) hx hb dX1_out_31 (by decide) ?_
    refine lv_iand hx hb dX1_out_34 ?_
    exact W.iret hx hb hr (fun t ht hW => ⟨_, rfl, by rw [ec, if_neg h8], ht⟩) tk_nil dX1_out_35
  · have h8 : j < 4 := by
      rcases Nat.lt_or_ge j 4 with h | h
      · exact h
      · exact absurd (nI_le (a := 4) (b := j) h (by omega)) h9
    refine lv_aload_n hx hb dX1_out_10 rfl (lv_at hl 1 rfl) ?_
    refine va_get (D := (dC, dI)) (ci := 1) (v := .int ol) (C := RX1) (T := TX1) (N := 5) hx hb hts in_X1 hown hK hP 0 rfl rfl 3 (by decide) (hts _ q373) (fun _ h9 => h9) rfl dX1_out_11 ?_
    refine lv_goto (tgt := 21) hx hb dX1_out_14 (by decide) ?_
    refine lv_bipush (v := 24) hx hb dX1_out_21 (by decide) ?_
    refine lv_bipush (v := 8) hx hb dX1_out_23 (by decide) ?_
    refine lv_iload_n hx hb dX1_out_25 rfl (lv_at hl 0 rfl) ?_
    refine lv_iconst (v := 4) hx hb dX1_out_26 (by decide) ?_
    refine lv_irem hx hb dX1_out_27 (by decide) ?_
    refine tk_as (nI (j % 4)) (pk_rem (a := j) (d := 4) (by omega) (by omega) (by omega)) ?_
    refine lv_imul hx hb dX1_out_28 ?_
    refine tk_as (nI (8 * (j % 4))) (pk_mul 8 (j % 4)) ?_
    refine lv_isub hx hb dX1_out_29 ?_
    refine tk_as (nI (24 - 8 * (j % 4))) (pk_sub (a := 24) (b := 8 * (j % 4)) (by omega)) ?_
    refine lv_ishr hx hb dX1_out_30 ?_
    refine lv_sipush (v := 255) hx hb dX1_out_31 (by decide) ?_
    refine lv_iand hx hb dX1_out_34 ?_
    exact W.iret hx hb hr (fun t ht hW => ⟨_, rfl, by rw [ec, if_pos h8], ht⟩) tk_nil dX1_out_35
end
section
/-! THE LAW -/
/-! THE CLAIM OUT OF ONE WALK OF THE LAW'S BODY. Your part is whole_start (and what it stands on); all else here is the same for every law, but numbers. -/
def R_law : String := "TeaDeskLaw"
def lw_P (b : Addr) (xs : List Int32) (args : Array Value) (s : State) : Prop := args = #[.ref b] ∧ s.IntsAt b xs ∧ xs.length ≤ 288 ∧ (Jvm.Cond.and given_1 narrow_1).before args s = true
def lw_Q (_ : Array Value) (s : State) (o : Outcome) (t : State) : Prop := o = .returned (some (.int 1)) ∧ Framed s o t [] 600096 7301386
def lw_Z (below : List Frame) (a : Array Value) (s : State) : State → Prop := fun t => ∃ o, t.status = .running ∧ Ended t below o ∧ lw_Q a s o t
/-- the law's own end, with 1 on the stack, nothing written that was there before, its room as the claim has it -/
theorem lw_ret {p : Program} {l : Launch} {e : Env} {s : State} {m : MethodId} {below : List Frame} {meth : Method} {c : Code} {b : Nat} (hx : p.tables.exec = Jvm.exec) (hb : c.code = code) (hr : meth.sig.returnType = ret) (hlocks : meth.locks = false) {pc : Nat} {H : Heap} {ls : Array Slot} (hdg : decode code pc = .ok (.ireturn, 1)) : W p l e room_1 s m #[Value.ref b] below meth c H [] 600096 7301386 (lw_Z below #[Value.ref b] s) (F0 m pc ls [.int 1]) := by
  intro T hT X
  obtain ⟨fs, hret, hrun, hended, hW, hframe⟩ := X.leave (v := some (.int 1)) (hlocks := hlocks) (fun h => by rw [hr] at h; cases h)
  have hmeth' : T.vm.method? m = some meth := X.method'
  refine ⟨T.setFrames fs, ?_, .returned (some (.int 1)), hrun, hended, rfl, ⟨_, rfl⟩, hW, hframe⟩
  jvm_step X.here [X.here.top, hx, hb, hdg, hmeth', hr, ret, narrow_b1]
  (try refine ⟨rfl, ?_⟩); (try refine ⟨rfl, ?_⟩)
  first | (intro acts; rw [hret _ acts rfl rfl rfl]) | rw [hret _ _ rfl rfl rfl]
  exact Steps.refl _
/-- what holds at the law's entry: the machine, the code, the tables' words (any of lw_tbl by 'hts w (by decide +kernel)'), the script of L ints xs at the cell b, what the Statement gives of the start (any of its parts by flat_of_before) -/
def lw_At (p : Program) (s : State) (m : MethodId) (meth : Method) (c : Code) (b L : Nat) (xs : Nat → Int32) : Prop :=
  p.tables.exec = Jvm.exec ∧ c.code = code ∧ meth.sig.returnType = ret ∧ c.maxLocals = 4 ∧ s.vm.findClass R_law = some m.cls ∧ (∀ w ∈ lw_tbl, w.before #[Value.ref b] s = true) ∧ va_X b L xs s s.heap ∧ b < s.heap.size ∧ meth.locks = false ∧ (Jvm.Cond.and given_1 narrow_1).before #[Value.ref b] s = true
theorem tq_w_z (i : Nat) : tq_w (fun _ => 0) i = 0 := (by decide +kernel : tq_w (fun _ => 0) 0 = 0)
theorem tq_lim {L k : Nat} (hL : L ≤ 288) (hk : 6 * k ≤ L) (h : ¬ (nI L - 6 < nI (6 * k))) : 6 * k + 6 ≤ L := by
  rcases Nat.lt_or_ge L (6 * k + 6) with q | q
  · refine absurd ?_ h
    show nI L - nI 6 < nI (6 * k)
    rw [Int32.lt_iff_toInt_lt, pk_sub_toInt (by omega) (by omega), nI_toInt (by omega)]
    omega
  · exact q
theorem tq_kinv {u fk g v : Nat → Int32} {hf a1 a2 a3 a4 : Int32} (h1 : (hf &&& 1 = 0 → tq_w u 0 = a1 ∧ tq_w u 4 = a2 ∧ tq_w u 8 = a3 ∧ tq_w u 12 = a4) ∧ (¬ hf &&& 1 = 0 → ∀ j, j < 16 → u j = fk j)) (h2 : (hf &&& 1 = 0 → v 0 = a1 ∧ v 1 = a2 ∧ v 2 = a3 ∧ v 3 = a4) ∧ (¬ hf &&& 1 = 0 → v = g)) (hi : ∀ j, j < 4 → g j = tq_w fk (4 * j)) : ∀ j, j < 4 → v j = tq_w u (4 * j) := by
  intro j hj
  by_cases h : hf &&& 1 = 0
  · obtain ⟨x0, x1, x2, x3⟩ := h1.1 h
    obtain ⟨y0, y1, y2, y3⟩ := h2.1 h
    rcases (show j = 0 ∨ j = 1 ∨ j = 2 ∨ j = 3 by omega) with rfl | rfl | rfl | rfl
    · exact y0.trans x0.symm
    · exact y1.trans x1.symm
    · exact y2.trans x2.symm
    · exact y3.trans x3.symm
  · rw [h2.2 h, hi j hj]
    exact tq_eq (fun i _ h7 => (h1.2 h i (by omega)).symm)
theorem tq_linv {u fk fb g : Nat → Int32} {v : Int32 × Int32} {lf rt lk kd : Int32} (h1 : (tq_w u 0, tq_w u 4) = tq_C lk kd (fun j => tq_w fk (4 * j)) (tq_w fb 0) (tq_w fb 4)) (h2 : v = tq_C lk kd g lf rt) (hi : ∀ j, j < 4 → g j = tq_w fk (4 * j)) (hl : tq_w fb 0 = lf) (hr : tq_w fb 4 = rt) : tq_w u 0 = v.1 ∧ tq_w u 4 = v.2 := by
  have e : (tq_w u 0, tq_w u 4) = v := by
    rw [h1, h2, hl, hr]
    exact tq_C_cg (fun j hj => (hi j hj).symm) lk kd lf rt
  exact ⟨congrArg Prod.fst e, congrArg Prod.snd e⟩
theorem tq_outs {f : Nat → Int32} {ol oo : Int32} (h0 : tq_w f 0 = ol) (h4 : tq_w f 4 = oo) {j : Nat} (hj : j < 8) : f j &&& 255 = ((if j < 4 then ol else oo) >>> (nI (24 - 8 * (j % 4)) &&& 31)) &&& 255 := by
  rcases Nat.lt_or_ge j 4 with h | h
  · rw [if_pos h, Nat.mod_eq_of_lt h]
    have e := tq_out (f := f) (i := 0) (d := j) h h0
    rw [Nat.zero_add] at e
    exact e
  · rw [if_neg (by omega)]
    obtain ⟨d, rfl⟩ : ∃ d, j = 4 + d := ⟨j - 4, by omega⟩
    rw [show (4 + d) % 4 = d by omega]
    exact tq_out (by omega) h4
theorem classes_all {s0 : State} {b0 : Addr} (ht0 : ∀ w ∈ lw_tbl, w.before #[Value.ref b0] s0 = true) : ∃ (dC : Nat → ClassId) (dI : Nat → Nat → Nat), ∀ (k : Nat) (q : vw_C), vwCl[k]? = some q → u_Kn s0 q.1 q.2.1 q.2.2 (dC k) (dI k) := by
  obtain ⟨c0_, i0_, hKn0⟩ := u_known (C := RX0) (T := TX0) (N := 3) (n := 3) ht0 (fun w h => lw_all_tbl (in_X0 w h)) (ht0 _ (lw_all_tbl q32))
  obtain ⟨c1_, i1_, hKn1⟩ := u_known (C := RX1) (T := TX1) (N := 5) (n := 5) ht0 (fun w h => lw_all_tbl (in_X1 w h)) (ht0 _ (lw_all_tbl q365))
  obtain ⟨c2_, i2_, hKn2⟩ := u_known (C := RX2) (T := TX2) (N := 6) (n := 6) ht0 (fun w h => lw_all_tbl (in_X2 w h)) (ht0 _ (lw_all_tbl q73))
  obtain ⟨c3_, i3_, hKn3⟩ := u_known (C := RX3) (T := TX3) (N := 5) (n := 5) ht0 (fun w h => lw_all_tbl (in_X3 w h)) (ht0 _ (lw_all_tbl q98))
  obtain ⟨c4_, i4_, hKn4⟩ := u_known (C := RX4) (T := TX4) (N := 1) (n := 1) ht0 (fun w h => lw_all_tbl (in_X4 w h)) (ht0 _ (lw_all_tbl q121))
  refine ⟨fun k => match k with | 0 => c0_ | 1 => c1_ | 2 => c2_ | 3 => c3_ | _ => c4_, fun k => match k with | 0 => i0_ | 1 => i1_ | 2 => i2_ | 3 => i3_ | _ => i4_, ?_⟩
  intro k q hq
  match k, hq with
  | 0, hq => cases hq; exact hKn0
  | 1, hq => cases hq; exact hKn1
  | 2, hq => cases hq; exact hKn2
  | 3, hq => cases hq; exact hKn3
  | 4, hq => cases hq; exact hKn4
  | k + 5, hq => simp [vwCl] at hq
set_option maxHeartbeats 4000000 in
set_option maxRecDepth 100000 in
/-- the law's loop at its head: k calls done -/
theorem law_loop {p : Program} {e : Env} {s : State} {m : MethodId} {below : List Frame} {meth : Method} {c : Code} (l : Launch) {b L : Nat} {xs : Nat → Int32} (hL : L ≤ 288) (C0 : lw_At p s m meth c b L xs) {dC : Nat → ClassId} {dI : Nat → Nat → Nat} (hF : tk_FF s) {hd qk qb qo hm mk : Nat} {ck cb co cM : ClassId} (hK : va_K (dC, dI) vwCl [(ck, .byte), (cb, .byte), (co, .byte), (cM, .int)] s) :
    ∀ (n k : Nat) (fk fb fo g : Nat → Int32) (lf rt ol oo : Int32) (H : Heap) (locs : List Loc), k + n = 49 → 6 * k ≤ L → (∀ j, j < 4 → g j = tq_w fk (4 * j)) → tq_w fb 0 = lf → tq_w fb 4 = rt → tq_w fo 0 = ol → tq_w fo 4 = oo → va_P (dC, dI) vwCl [(hd, .inr (0, [.ref qk, .ref qb, .ref qo])), (qk, .inl (ck, 32, .inl fk)), (qb, .inl (cb, 8, .inl fb)), (qo, .inl (co, 8, .inl fo)), (hm, .inr (1, [.ref mk, .int lf, .int rt, .int ol, .int oo])), (mk, .inl (cM, 4, .inl g))] H → va_D (fun q : Nat => s.heap.size ≤ q) [(hd, .inr (0, [.ref qk, .ref qb, .ref qo])), (qk, .inl (ck, 32, .inl fk)), (qb, .inl (cb, 8, .inl fb)), (qo, .inl (co, 8, .inl fo)), (hm, .inr (1, [.ref mk, .int lf, .int rt, .int ol, .int oo])), (mk, .inl (cM, 4, .inl g))] → va_S (fun q : Nat => s.heap.size ≤ q) s.heap H locs → ∀ ls : Array Slot, lv_has ls 4 [(0, .ref b), (1, .ref hd), (2, .ref hm), (3, .int (nI (6 * k)))] → W p l e room_1 s m #[Value.ref b] below meth c H locs (6 + 7 * k) (60 + 106 * k) (lw_Z below #[Value.ref b] s) (F0 m 18 ls []) := by
  obtain ⟨hx, hb, hr, hml, hown, hts0, hX, hbl, hlocks, hgv⟩ := id C0
  have hts : ∀ w ∈ lw_all, w.before #[Value.ref b] s = true := fun w h => hts0 w (lw_all_tbl h)
  have hA : ∀ q : Nat, s.heap.size ≤ q → (fun q : Nat => s.heap.size ≤ q) q := fun _ h => h
  have hbA : ¬ (fun q : Nat => s.heap.size ≤ q) b := Nat.not_le.mpr hbl
  intro n
  induction n with
  | zero =>
    intro k fk fb fo g lf rt ol oo H locs h49 hk
    exact absurd h49 (by omega)
  | succ n ih =>
    intro k fk fb fo g lf rt ol oo H locs h49 hk i1 i2 i3 i4 i5 hP hD hS ls hl
    refine lv_iload_n hx hb dL_law_18 rfl (lv_at hl 3 rfl) ?_
    refine lv_aload_n hx hb dL_law_19 rfl (lv_at hl 0 rfl) ?_
    refine va_slen hx hb hX hbl hbA hS dL_law_20 ?_
    refine lv_bipush (v := 6) hx hb dL_law_21 (by decide) ?_
    refine lv_isub hx hb dL_law_23 ?_
    refine lv_icmp_gt (tgt := 246) hx hb dL_law_24 (by decide) (fun _ => ?_) (fun h9 => ?_)
    · refine lv_iconst (v := 1) hx hb dL_law_246 (by decide) ?_
      refine va_forget (fun q hq => hS.2.2 q hq) ?_
      refine W.widen (k := 600096) (n := 7301386) (by omega) (by omega) ?_
      exact lw_ret hx hb hr hlocks dL_law_247
    · have h6 : 6 * k + 6 ≤ L := tq_lim hL hk h9
      refine lv_aload_n hx hb dL_law_27 rfl (lv_at hl 0 rfl) ?_
      refine lv_iload_n hx hb dL_law_28 rfl (lv_at hl 3 rfl) ?_
      refine tk_sld hx hb hX hbl hbA hS (6 * k) (by omega) (by omega) dL_law_29 ?_
      refine lv_bipush (v := 7) hx hb dL_law_30 (by decide) ?_
      refine lv_iand hx hb dL_law_32 ?_
      obtain ⟨t, htt, et⟩ := pk_andE (xs (6 * k)) (m := 7) 3 (by decide)
      refine tk_as (nI t) (et) ?_
      rcases (show t = 0 ∨ t = 1 ∨ t = 2 ∨ t = 3 ∨ t = 4 ∨ t = 5 ∨ t = 6 ∨ t = 7 by omega) with rfl | rfl | rfl | rfl | rfl | rfl | rfl | rfl
      · refine lv_tableIn (off := 39) (tgt := 72) hx hb dL_law_33 (by decide +kernel) (by decide +kernel) (by decide +kernel) (by decide) ?_
        refine lv_aload_n hx hb dL_law_72 rfl (lv_at hl 1 rfl) ?_
        refine lv_aload_n hx hb dL_law_73 rfl (lv_at hl 0 rfl) ?_
        refine lv_iload_n hx hb dL_law_74 rfl (lv_at hl 3 rfl) ?_
        refine lv_iconst (v := 1) hx hb dL_law_75 (by decide) ?_
        refine lv_iadd hx hb dL_law_76 ?_
        refine tk_as (nI (6 * k + 1)) (nI_add (6 * k) 1) ?_
        refine tk_sld hx hb hX hbl hbA hS (6 * k + 1) (by omega) (by omega) dL_law_77 ?_
        refine lv_aload_n hx hb dL_law_78 rfl (lv_at hl 0 rfl) ?_
        refine lv_iload_n hx hb dL_law_79 rfl (lv_at hl 3 rfl) ?_
        refine lv_iconst (v := 2) hx hb dL_law_80 (by decide) ?_
        refine lv_iadd hx hb dL_law_81 ?_
        refine tk_as (nI (6 * k + 2)) (nI_add (6 * k) 2) ?_
        refine tk_sld hx hb hX hbl hbA hS (6 * k + 2) (by omega) (by omega) dL_law_82 ?_
        refine lv_aload_n hx hb dL_law_83 rfl (lv_at hl 0 rfl) ?_
        refine lv_iload_n hx hb dL_law_84 rfl (lv_at hl 3 rfl) ?_
        refine lv_iconst (v := 3) hx hb dL_law_85 (by decide) ?_
        refine lv_iadd hx hb dL_law_86 ?_
        refine tk_as (nI (6 * k + 3)) (nI_add (6 * k) 3) ?_
        refine tk_sld hx hb hX hbl hbA hS (6 * k + 3) (by omega) (by omega) dL_law_87 ?_
        refine lv_aload_n hx hb dL_law_88 rfl (lv_at hl 0 rfl) ?_
        refine lv_iload_n hx hb dL_law_89 rfl (lv_at hl 3 rfl) ?_
        refine lv_iconst (v := 4) hx hb dL_law_90 (by decide) ?_
        refine lv_iadd hx hb dL_law_91 ?_
        refine tk_as (nI (6 * k + 4)) (nI_add (6 * k) 4) ?_
        refine tk_sld hx hb hX hbl hbA hS (6 * k + 4) (by omega) (by omega) dL_law_92 ?_
        refine lv_aload_n hx hb dL_law_93 rfl (lv_at hl 0 rfl) ?_
        refine lv_iload_n hx hb dL_law_94 rfl (lv_at hl 3 rfl) ?_
        refine lv_iconst (v := 5) hx hb dL_law_95 (by decide) ?_
        refine lv_iadd hx hb dL_law_96 ?_
        refine tk_as (nI (6 * k + 5)) (nI_add (6 * k) 5) ?_
        refine tk_sld hx hb hX hbl hbA hS (6 * k + 5) (by omega) (by omega) dL_law_97 ?_
        have hPc := hP.sub (ws' := [(hd, .inr (0, [.ref qk, .ref qb, .ref qo])), (qk, .inl (ck, 32, .inl fk))]) [0, 1] rfl
        have hDc := hD.sub (ws' := [(hd, .inr (0, [.ref qk, .ref qb, .ref qo])), (qk, .inl (ck, 32, .inl fk))]) [0, 1] (by decide) rfl
        have hKc := hK.sub (tys' := [(ck, .byte)]) [0] rfl
        have hFc := va_free (wc := [(hd, .inr (0, [.ref qk, .ref qb, .ref qo])), (qk, .inl (ck, 32, .inl fk))]) hD hS hA [0, 1] rfl
        refine va_callv (va_runV (As := [.int (xs (6 * k + 1)), .int (xs (6 * k + 2)), .int (xs (6 * k + 3)), .int (xs (6 * k + 4)), .int (xs (6 * k + 5))]) (rest := []) ⟨hx, hb, hml, hown, hts⟩ (metX0_key l dC dI hd qk qb qo ck fk (xs (6 * k + 1)) (xs (6 * k + 2)) (xs (6 * k + 3)) (xs (6 * k + 4)) (xs (6 * k + 5)) H.size) (cwV 5 hts (lw_V q50 q51 q52 q17 q53) rfl rfl rfl (by decide +kernel) ⟨Nat.le_of_ble_eq_true rfl, Nat.le_of_ble_eq_true rfl⟩) ⟨fun a U g mk q => by obtain ⟨q0, q1, qP, qK, qD⟩ := q; exact ⟨q0, q1, qP, va_K.moved (u := U) (U := U.calling g mk a) (Vm.Alike.refl U.vm) qK, qD⟩, va_recv hK hP (ci := 0) (q0 := 0) rfl rfl, fun U hU hW => ⟨rfl, by rw [hU], by rw [hU]; exact hPc, va_K.moved hW.alike hKc, hDc.weaken (fun _ _ _ _ => trivial)⟩⟩ rfl rfl hl.1 rfl (lv_room (Nat.le_of_ble_eq_true rfl)) dL_law_98 ⟨by show _ ≤ 600096; omega, by show _ ≤ 7301386; omega⟩) hS (fun q _ h => hFc q h) hFc (fun u t H1 locs ht hvm hwu hB hzz hk1 hS => ?_)
        obtain ⟨hP1, hK1, hD1⟩ := hB
        rw [ht] at hP1
        obtain ⟨hP, hD⟩ := va_join (wr := [(qb, .inl (cb, 8, .inl fb)), (qo, .inl (co, 8, .inl fo)), (hm, .inr (1, [.ref mk, .int lf, .int rt, .int ol, .int oo])), (mk, .inl (cM, 4, .inl g))]) (w1 := [(hd, .inr (0, [.ref qk, .ref qb, .ref qo])), (qk, .inl (ck, 32, .inl u))]) hP hD [0, 1] [2, 3, 4, 5] rfl rfl (by decide) (by decide) hk1 hFc hP1 hD1
        generalize H1 = H at hP hS ⊢
        have hP : va_P (dC, dI) vwCl [(qb, .inl (cb, 8, .inl fb)), (qo, .inl (co, 8, .inl fo)), (hm, .inr (1, [.ref mk, .int lf, .int rt, .int ol, .int oo])), (mk, .inl (cM, 4, .inl g)), (hd, .inr (0, [.ref qk, .ref qb, .ref qo])), (qk, .inl (ck, 32, .inl u))] H := hP
        have hD : va_D (fun q : Nat => s.heap.size ≤ q) [(qb, .inl (cb, 8, .inl fb)), (qo, .inl (co, 8, .inl fo)), (hm, .inr (1, [.ref mk, .int lf, .int rt, .int ol, .int oo])), (mk, .inl (cM, 4, .inl g)), (hd, .inr (0, [.ref qk, .ref qb, .ref qo])), (qk, .inl (ck, 32, .inl u))] := hD
        refine lv_aload_n hx hb dL_law_101 rfl (lv_at hl 2 rfl) ?_
        refine lv_aload_n hx hb dL_law_102 rfl (lv_at hl 0 rfl) ?_
        refine lv_iload_n hx hb dL_law_103 rfl (lv_at hl 3 rfl) ?_
        refine lv_iconst (v := 1) hx hb dL_law_104 (by decide) ?_
        refine lv_iadd hx hb dL_law_105 ?_
        refine tk_as (nI (6 * k + 1)) (nI_add (6 * k) 1) ?_
        refine tk_sld hx hb hX hbl hbA hS (6 * k + 1) (by omega) (by omega) dL_law_106 ?_
        refine lv_aload_n hx hb dL_law_107 rfl (lv_at hl 0 rfl) ?_
        refine lv_iload_n hx hb dL_law_108 rfl (lv_at hl 3 rfl) ?_
        refine lv_iconst (v := 2) hx hb dL_law_109 (by decide) ?_
        refine lv_iadd hx hb dL_law_110 ?_
        refine tk_as (nI (6 * k + 2)) (nI_add (6 * k) 2) ?_
        refine tk_sld hx hb hX hbl hbA hS (6 * k + 2) (by omega) (by omega) dL_law_111 ?_
        refine lv_aload_n hx hb dL_law_112 rfl (lv_at hl 0 rfl) ?_
        refine lv_iload_n hx hb dL_law_113 rfl (lv_at hl 3 rfl) ?_
        refine lv_iconst (v := 3) hx hb dL_law_114 (by decide) ?_
        refine lv_iadd hx hb dL_law_115 ?_
        refine tk_as (nI (6 * k + 3)) (nI_add (6 * k) 3) ?_
        refine tk_sld hx hb hX hbl hbA hS (6 * k + 3) (by omega) (by omega) dL_law_116 ?_
        refine lv_aload_n hx hb dL_law_117 rfl (lv_at hl 0 rfl) ?_
        refine lv_iload_n hx hb dL_law_118 rfl (lv_at hl 3 rfl) ?_
        refine lv_iconst (v := 4) hx hb dL_law_119 (by decide) ?_
        refine lv_iadd hx hb dL_law_120 ?_
        refine tk_as (nI (6 * k + 4)) (nI_add (6 * k) 4) ?_
        refine tk_sld hx hb hX hbl hbA hS (6 * k + 4) (by omega) (by omega) dL_law_121 ?_
        refine lv_aload_n hx hb dL_law_122 rfl (lv_at hl 0 rfl) ?_
        refine lv_iload_n hx hb dL_law_123 rfl (lv_at hl 3 rfl) ?_
        refine lv_iconst (v := 5) hx hb dL_law_124 (by decide) ?_
        refine lv_iadd hx hb dL_law_125 ?_
        refine tk_as (nI (6 * k + 5)) (nI_add (6 * k) 5) ?_
        refine tk_sld hx hb hX hbl hbA hS (6 * k + 5) (by omega) (by omega) dL_law_126 ?_
        have hPc := hP.sub (ws' := [(hm, .inr (1, [.ref mk, .int lf, .int rt, .int ol, .int oo])), (mk, .inl (cM, 4, .inl g))]) [2, 3] rfl
        have hDc := hD.sub (ws' := [(hm, .inr (1, [.ref mk, .int lf, .int rt, .int ol, .int oo])), (mk, .inl (cM, 4, .inl g))]) [2, 3] (by decide) rfl
        have hKc := hK.sub (tys' := [(cM, .int)]) [3] rfl
        have hFc := va_free (wc := [(hm, .inr (1, [.ref mk, .int lf, .int rt, .int ol, .int oo])), (mk, .inl (cM, 4, .inl g))]) hD hS hA [2, 3] rfl
        refine va_callv (va_runV (As := [.int (xs (6 * k + 1)), .int (xs (6 * k + 2)), .int (xs (6 * k + 3)), .int (xs (6 * k + 4)), .int (xs (6 * k + 5))]) (rest := []) ⟨hx, hb, hml, hown, hts⟩ (metX1_key l dC dI hm mk cM g lf rt ol oo (xs (6 * k + 1)) (xs (6 * k + 2)) (xs (6 * k + 3)) (xs (6 * k + 4)) (xs (6 * k + 5)) H.size) (cwV 5 hts (lw_V q386 q387 q388 q18 q389) rfl rfl rfl (by decide +kernel) ⟨Nat.le_of_ble_eq_true rfl, Nat.le_of_ble_eq_true rfl⟩) ⟨fun a U g mk q => by obtain ⟨q0, q1, qP, qK, qD⟩ := q; exact ⟨q0, q1, qP, va_K.moved (u := U) (U := U.calling g mk a) (Vm.Alike.refl U.vm) qK, qD⟩, va_recv hK hP (ci := 1) (q0 := 2) rfl rfl, fun U hU hW => ⟨rfl, by rw [hU], by rw [hU]; exact hPc, va_K.moved hW.alike hKc, hDc.weaken (fun _ _ _ _ => trivial)⟩⟩ rfl rfl hl.1 rfl (lv_room (Nat.le_of_ble_eq_true rfl)) dL_law_127 ⟨by show _ ≤ 600096; omega, by show _ ≤ 7301386; omega⟩) hS (fun q _ h => hFc q h) hFc (fun v t H1 locs ht hvm hwv hB hzz hk1 hS => ?_)
        obtain ⟨hP1, hK1, hD1⟩ := hB
        rw [ht] at hP1
        obtain ⟨hP, hD⟩ := va_join (wr := [(qb, .inl (cb, 8, .inl fb)), (qo, .inl (co, 8, .inl fo)), (hd, .inr (0, [.ref qk, .ref qb, .ref qo])), (qk, .inl (ck, 32, .inl u))]) (w1 := [(hm, .inr (1, [.ref mk, .int lf, .int rt, .int ol, .int oo])), (mk, .inl (cM, 4, .inl v))]) hP hD [2, 3] [0, 1, 4, 5] rfl rfl (by decide) (by decide) hk1 hFc hP1 hD1
        generalize H1 = H at hP hS ⊢
        have hP : va_P (dC, dI) vwCl [(qb, .inl (cb, 8, .inl fb)), (qo, .inl (co, 8, .inl fo)), (hd, .inr (0, [.ref qk, .ref qb, .ref qo])), (qk, .inl (ck, 32, .inl u)), (hm, .inr (1, [.ref mk, .int lf, .int rt, .int ol, .int oo])), (mk, .inl (cM, 4, .inl v))] H := hP
        have hD : va_D (fun q : Nat => s.heap.size ≤ q) [(qb, .inl (cb, 8, .inl fb)), (qo, .inl (co, 8, .inl fo)), (hd, .inr (0, [.ref qk, .ref qb, .ref qo])), (qk, .inl (ck, 32, .inl u)), (hm, .inr (1, [.ref mk, .int lf, .int rt, .int ol, .int oo])), (mk, .inl (cM, 4, .inl v))] := hD
        refine lv_goto (tgt := 240) hx hb dL_law_130 (by decide) ?_
        refine lv_iinc (v := nI (6 * (k + 1))) (lv' := [(3, .int (nI (6 * (k + 1)))), (0, .ref b), (1, .ref hd), (2, .ref hm)]) hx hb dL_law_240 hl (k := 3) rfl (by rw [show 6 * (k + 1) = 6 * k + 6 by omega]; exact tk_inc6 (6 * k)) (by decide) rfl (fun ls hl => ?_)
        refine lv_goto (tgt := 18) hx hb dL_law_243 (by decide) ?_
        refine W.widen (k := 6 + 7 * (k + 1)) (n := 60 + 106 * (k + 1)) (by omega) (by omega) ?_
        exact ih (k + 1) u fb fo v lf rt ol oo H locs (by omega) (by omega) (tq_kinv hwu hwv i1) i2 i3 i4 i5 (hP.sub [2, 3, 0, 1, 4, 5] rfl) (hD.sub [2, 3, 0, 1, 4, 5] (by decide) rfl) hS ls (lv_sub hl [1, 2, 3, 0] rfl)
      · refine lv_tableIn (off := 100) (tgt := 133) hx hb dL_law_33 (by decide +kernel) (by decide +kernel) (by decide +kernel) (by decide) ?_
        refine lv_aload_n hx hb dL_law_133 rfl (lv_at hl 1 rfl) ?_
        refine lv_aload_n hx hb dL_law_134 rfl (lv_at hl 0 rfl) ?_
        refine lv_iload_n hx hb dL_law_135 rfl (lv_at hl 3 rfl) ?_
        refine lv_iconst (v := 1) hx hb dL_law_136 (by decide) ?_
        refine lv_iadd hx hb dL_law_137 ?_
        refine tk_as (nI (6 * k + 1)) (nI_add (6 * k) 1) ?_
        refine tk_sld hx hb hX hbl hbA hS (6 * k + 1) (by omega) (by omega) dL_law_138 ?_
        refine lv_aload_n hx hb dL_law_139 rfl (lv_at hl 0 rfl) ?_
        refine lv_iload_n hx hb dL_law_140 rfl (lv_at hl 3 rfl) ?_
        refine lv_iconst (v := 2) hx hb dL_law_141 (by decide) ?_
        refine lv_iadd hx hb dL_law_142 ?_
        refine tk_as (nI (6 * k + 2)) (nI_add (6 * k) 2) ?_
        refine tk_sld hx hb hX hbl hbA hS (6 * k + 2) (by omega) (by omega) dL_law_143 ?_
        have hPc := hP.sub (ws' := [(hd, .inr (0, [.ref qk, .ref qb, .ref qo])), (qb, .inl (cb, 8, .inl fb))]) [0, 2] rfl
        have hDc := hD.sub (ws' := [(hd, .inr (0, [.ref qk, .ref qb, .ref qo])), (qb, .inl (cb, 8, .inl fb))]) [0, 2] (by decide) rfl
        have hKc := hK.sub (tys' := [(cb, .byte)]) [1] rfl
        have hFc := va_free (wc := [(hd, .inr (0, [.ref qk, .ref qb, .ref qo])), (qb, .inl (cb, 8, .inl fb))]) hD hS hA [0, 2] rfl
        refine va_callv (va_runV (As := [.int (xs (6 * k + 1)), .int (xs (6 * k + 2))]) (rest := []) ⟨hx, hb, hml, hown, hts⟩ (metX0_block l dC dI hd qk qb qo cb fb (xs (6 * k + 1)) (xs (6 * k + 2)) H.size) (cwV 2 hts (lw_V q57 q58 q59 q17 q60) rfl rfl rfl (by decide +kernel) ⟨Nat.le_of_ble_eq_true rfl, Nat.le_of_ble_eq_true rfl⟩) ⟨fun a U g mk q => by obtain ⟨q0, q1, qP, qK, qD⟩ := q; exact ⟨q0, q1, qP, va_K.moved (u := U) (U := U.calling g mk a) (Vm.Alike.refl U.vm) qK, qD⟩, va_recv hK hP (ci := 0) (q0 := 0) rfl rfl, fun U hU hW => ⟨rfl, by rw [hU], by rw [hU]; exact hPc, va_K.moved hW.alike hKc, hDc.weaken (fun _ _ _ _ => trivial)⟩⟩ rfl rfl hl.1 rfl (lv_room (Nat.le_of_ble_eq_true rfl)) dL_law_144 ⟨by show _ ≤ 600096; omega, by show _ ≤ 7301386; omega⟩) hS (fun q _ h => hFc q h) hFc (fun u t H1 locs ht hvm hwu hB hzz hk1 hS => ?_)
        obtain ⟨hP1, hK1, hD1⟩ := hB
        rw [ht] at hP1
        obtain ⟨hP, hD⟩ := va_join (wr := [(qk, .inl (ck, 32, .inl fk)), (qo, .inl (co, 8, .inl fo)), (hm, .inr (1, [.ref mk, .int lf, .int rt, .int ol, .int oo])), (mk, .inl (cM, 4, .inl g))]) (w1 := [(hd, .inr (0, [.ref qk, .ref qb, .ref qo])), (qb, .inl (cb, 8, .inl u))]) hP hD [0, 2] [1, 3, 4, 5] rfl rfl (by decide) (by decide) hk1 hFc hP1 hD1
        generalize H1 = H at hP hS ⊢
        have hP : va_P (dC, dI) vwCl [(qk, .inl (ck, 32, .inl fk)), (qo, .inl (co, 8, .inl fo)), (hm, .inr (1, [.ref mk, .int lf, .int rt, .int ol, .int oo])), (mk, .inl (cM, 4, .inl g)), (hd, .inr (0, [.ref qk, .ref qb, .ref qo])), (qb, .inl (cb, 8, .inl u))] H := hP
        have hD : va_D (fun q : Nat => s.heap.size ≤ q) [(qk, .inl (ck, 32, .inl fk)), (qo, .inl (co, 8, .inl fo)), (hm, .inr (1, [.ref mk, .int lf, .int rt, .int ol, .int oo])), (mk, .inl (cM, 4, .inl g)), (hd, .inr (0, [.ref qk, .ref qb, .ref qo])), (qb, .inl (cb, 8, .inl u))] := hD
        refine lv_aload_n hx hb dL_law_147 rfl (lv_at hl 2 rfl) ?_
        refine lv_aload_n hx hb dL_law_148 rfl (lv_at hl 0 rfl) ?_
        refine lv_iload_n hx hb dL_law_149 rfl (lv_at hl 3 rfl) ?_
        refine lv_iconst (v := 1) hx hb dL_law_150 (by decide) ?_
        refine lv_iadd hx hb dL_law_151 ?_
        refine tk_as (nI (6 * k + 1)) (nI_add (6 * k) 1) ?_
        refine tk_sld hx hb hX hbl hbA hS (6 * k + 1) (by omega) (by omega) dL_law_152 ?_
        refine lv_aload_n hx hb dL_law_153 rfl (lv_at hl 0 rfl) ?_
        refine lv_iload_n hx hb dL_law_154 rfl (lv_at hl 3 rfl) ?_
        refine lv_iconst (v := 2) hx hb dL_law_155 (by decide) ?_
        refine lv_iadd hx hb dL_law_156 ?_
        refine tk_as (nI (6 * k + 2)) (nI_add (6 * k) 2) ?_
        refine tk_sld hx hb hX hbl hbA hS (6 * k + 2) (by omega) (by omega) dL_law_157 ?_
        have hPc := hP.sub (ws' := [(hm, .inr (1, [.ref mk, .int lf, .int rt, .int ol, .int oo]))]) [2] rfl
        have hDc := hD.sub (ws' := [(hm, .inr (1, [.ref mk, .int lf, .int rt, .int ol, .int oo]))]) [2] (by decide) rfl
        have hKc := hK.sub (tys' := []) [] rfl
        have hFc := va_free (wc := [(hm, .inr (1, [.ref mk, .int lf, .int rt, .int ol, .int oo]))]) hD hS hA [2] rfl
        refine va_callv (va_runV (As := [.int (xs (6 * k + 1)), .int (xs (6 * k + 2))]) (rest := []) ⟨hx, hb, hml, hown, hts⟩ (metX1_block l dC dI hm mk lf rt ol oo (xs (6 * k + 1)) (xs (6 * k + 2)) H.size) (cwV 2 hts (lw_V q390 q391 q392 q18 q393) rfl rfl rfl (by decide +kernel) ⟨Nat.le_of_ble_eq_true rfl, Nat.le_of_ble_eq_true rfl⟩) ⟨fun a U g mk q => by obtain ⟨q0, q1, qP, qK, qD⟩ := q; exact ⟨q0, q1, qP, va_K.moved (u := U) (U := U.calling g mk a) (Vm.Alike.refl U.vm) qK, qD⟩, va_recv hK hP (ci := 1) (q0 := 2) rfl rfl, fun U hU hW => ⟨rfl, by rw [hU], by rw [hU]; exact hPc, va_K.moved hW.alike hKc, hDc.weaken (fun _ _ _ _ => trivial)⟩⟩ rfl rfl hl.1 rfl (lv_room (Nat.le_of_ble_eq_true rfl)) dL_law_158 ⟨by show _ ≤ 600096; omega, by show _ ≤ 7301386; omega⟩) hS (fun q _ h => hFc q h) hFc (fun _v t H1 locs ht hvm _hwv hB hzz hk1 hS => ?_)
        obtain ⟨hP1, hK1, hD1⟩ := hB
        rw [ht] at hP1
        obtain ⟨hP, hD⟩ := va_join (wr := [(qk, .inl (ck, 32, .inl fk)), (qo, .inl (co, 8, .inl fo)), (mk, .inl (cM, 4, .inl g)), (hd, .inr (0, [.ref qk, .ref qb, .ref qo])), (qb, .inl (cb, 8, .inl u))]) (w1 := [(hm, .inr (1, [.ref mk, .int (xs (6 * k + 1)), .int (xs (6 * k + 2)), .int ol, .int oo]))]) hP hD [2] [0, 1, 3, 4, 5] rfl rfl (by decide) (by decide) hk1 hFc hP1 hD1
        generalize H1 = H at hP hS ⊢
        have hP : va_P (dC, dI) vwCl [(qk, .inl (ck, 32, .inl fk)), (qo, .inl (co, 8, .inl fo)), (mk, .inl (cM, 4, .inl g)), (hd, .inr (0, [.ref qk, .ref qb, .ref qo])), (qb, .inl (cb, 8, .inl u)), (hm, .inr (1, [.ref mk, .int (xs (6 * k + 1)), .int (xs (6 * k + 2)), .int ol, .int oo]))] H := hP
        have hD : va_D (fun q : Nat => s.heap.size ≤ q) [(qk, .inl (ck, 32, .inl fk)), (qo, .inl (co, 8, .inl fo)), (mk, .inl (cM, 4, .inl g)), (hd, .inr (0, [.ref qk, .ref qb, .ref qo])), (qb, .inl (cb, 8, .inl u)), (hm, .inr (1, [.ref mk, .int (xs (6 * k + 1)), .int (xs (6 * k + 2)), .int ol, .int oo]))] := hD
        refine lv_goto (tgt := 240) hx hb dL_law_161 (by decide) ?_
        refine lv_iinc (v := nI (6 * (k + 1))) (lv' := [(3, .int (nI (6 * (k + 1)))), (0, .ref b), (1, .ref hd), (2, .ref hm)]) hx hb dL_law_240 hl (k := 3) rfl (by rw [show 6 * (k + 1) = 6 * k + 6 by omega]; exact tk_inc6 (6 * k)) (by decide) rfl (fun ls hl => ?_)
        refine lv_goto (tgt := 18) hx hb dL_law_243 (by decide) ?_
        refine W.widen (k := 6 + 7 * (k + 1)) (n := 60 + 106 * (k + 1)) (by omega) (by omega) ?_
        exact ih (k + 1) fk u fo g (xs (6 * k + 1)) (xs (6 * k + 2)) ol oo H locs (by omega) (by omega) i1 hwu.1 hwu.2 i4 i5 (hP.sub [3, 0, 4, 1, 5, 2] rfl) (hD.sub [3, 0, 4, 1, 5, 2] (by decide) rfl) hS ls (lv_sub hl [1, 2, 3, 0] rfl)
      · refine lv_tableIn (off := 131) (tgt := 164) hx hb dL_law_33 (by decide +kernel) (by decide +kernel) (by decide +kernel) (by decide) ?_
        refine lv_aload_n hx hb dL_law_164 rfl (lv_at hl 1 rfl) ?_
        refine lv_aload_n hx hb dL_law_165 rfl (lv_at hl 0 rfl) ?_
        refine lv_iload_n hx hb dL_law_166 rfl (lv_at hl 3 rfl) ?_
        refine lv_iconst (v := 1) hx hb dL_law_167 (by decide) ?_
        refine lv_iadd hx hb dL_law_168 ?_
        refine tk_as (nI (6 * k + 1)) (nI_add (6 * k) 1) ?_
        refine tk_sld hx hb hX hbl hbA hS (6 * k + 1) (by omega) (by omega) dL_law_169 ?_
        have hPc := hP.sub (ws' := [(hd, .inr (0, [.ref qk, .ref qb, .ref qo])), (qk, .inl (ck, 32, .inl fk)), (qb, .inl (cb, 8, .inl fb)), (qo, .inl (co, 8, .inl fo))]) [0, 1, 2, 3] rfl
        have hDc := hD.sub (ws' := [(hd, .inr (0, [.ref qk, .ref qb, .ref qo])), (qk, .inl (ck, 32, .inl fk)), (qb, .inl (cb, 8, .inl fb)), (qo, .inl (co, 8, .inl fo))]) [0, 1, 2, 3] (by decide) rfl
        have hKc := hK.sub (tys' := [(ck, .byte), (cb, .byte), (co, .byte)]) [0, 1, 2] rfl
        have hFc := va_free (wc := [(hd, .inr (0, [.ref qk, .ref qb, .ref qo])), (qk, .inl (ck, 32, .inl fk)), (qb, .inl (cb, 8, .inl fb)), (qo, .inl (co, 8, .inl fo))]) hD hS hA [0, 1, 2, 3] rfl
        refine va_callv (va_runV (As := [.int (xs (6 * k + 1))]) (rest := []) ⟨hx, hb, hml, hown, hts⟩ (metX0_lock l dC dI hd qk qb qo ck cb co fk fb fo (xs (6 * k + 1)) H.size) (cwV 1 hts (lw_V q61 q62 q63 q17 q64) rfl rfl rfl (by decide +kernel) ⟨Nat.le_of_ble_eq_true rfl, Nat.le_of_ble_eq_true rfl⟩) ⟨fun a U g mk q => by obtain ⟨q0, q1, qP, qK, qD, qF⟩ := q; exact ⟨q0, q1, qP, va_K.moved (u := U) (U := U.calling g mk a) (Vm.Alike.refl U.vm) qK, qD, tk_FF.moved (u := U) (U := U.calling g mk a) (Vm.Alike.refl U.vm) qF⟩, va_recv hK hP (ci := 0) (q0 := 0) rfl rfl, fun U hU hW => ⟨rfl, by rw [hU], by rw [hU]; exact hPc, va_K.moved hW.alike hKc, hDc.weaken (fun _ _ _ _ => trivial), tk_FF.moved hW.alike hF⟩⟩ rfl rfl hl.1 rfl (lv_room (Nat.le_of_ble_eq_true rfl)) dL_law_170 ⟨by show _ ≤ 600096; omega, by show _ ≤ 7301386; omega⟩) hS (fun q _ h => hFc q h) hFc (fun u t H1 locs ht hvm hwu hB hzz hk1 hS => ?_)
        obtain ⟨hP1, hK1, hD1⟩ := hB
        rw [ht] at hP1
        obtain ⟨hP, hD⟩ := va_join (wr := [(hm, .inr (1, [.ref mk, .int lf, .int rt, .int ol, .int oo])), (mk, .inl (cM, 4, .inl g))]) (w1 := [(hd, .inr (0, [.ref qk, .ref qb, .ref qo])), (qk, .inl (ck, 32, .inl fk)), (qb, .inl (cb, 8, .inl fb)), (qo, .inl (co, 8, .inl u))]) hP hD [0, 1, 2, 3] [4, 5] rfl rfl (by decide) (by decide) hk1 hFc hP1 hD1
        generalize H1 = H at hP hS ⊢
        have hP : va_P (dC, dI) vwCl [(hm, .inr (1, [.ref mk, .int lf, .int rt, .int ol, .int oo])), (mk, .inl (cM, 4, .inl g)), (hd, .inr (0, [.ref qk, .ref qb, .ref qo])), (qk, .inl (ck, 32, .inl fk)), (qb, .inl (cb, 8, .inl fb)), (qo, .inl (co, 8, .inl u))] H := hP
        have hD : va_D (fun q : Nat => s.heap.size ≤ q) [(hm, .inr (1, [.ref mk, .int lf, .int rt, .int ol, .int oo])), (mk, .inl (cM, 4, .inl g)), (hd, .inr (0, [.ref qk, .ref qb, .ref qo])), (qk, .inl (ck, 32, .inl fk)), (qb, .inl (cb, 8, .inl fb)), (qo, .inl (co, 8, .inl u))] := hD
        refine lv_aload_n hx hb dL_law_173 rfl (lv_at hl 2 rfl) ?_
        refine lv_aload_n hx hb dL_law_174 rfl (lv_at hl 0 rfl) ?_
        refine lv_iload_n hx hb dL_law_175 rfl (lv_at hl 3 rfl) ?_
        refine lv_iconst (v := 1) hx hb dL_law_176 (by decide) ?_
        refine lv_iadd hx hb dL_law_177 ?_
        refine tk_as (nI (6 * k + 1)) (nI_add (6 * k) 1) ?_
        refine tk_sld hx hb hX hbl hbA hS (6 * k + 1) (by omega) (by omega) dL_law_178 ?_
        have hPc := hP.sub (ws' := [(hm, .inr (1, [.ref mk, .int lf, .int rt, .int ol, .int oo])), (mk, .inl (cM, 4, .inl g))]) [0, 1] rfl
        have hDc := hD.sub (ws' := [(hm, .inr (1, [.ref mk, .int lf, .int rt, .int ol, .int oo])), (mk, .inl (cM, 4, .inl g))]) [0, 1] (by decide) rfl
        have hKc := hK.sub (tys' := [(cM, .int)]) [3] rfl
        have hFc := va_free (wc := [(hm, .inr (1, [.ref mk, .int lf, .int rt, .int ol, .int oo])), (mk, .inl (cM, 4, .inl g))]) hD hS hA [0, 1] rfl
        refine va_callv (va_runV (As := [.int (xs (6 * k + 1))]) (rest := []) ⟨hx, hb, hml, hown, hts⟩ (metX1_lock l dC dI hm mk cM g lf rt ol oo (xs (6 * k + 1)) H.size) (cwV 1 hts (lw_V q394 q395 q396 q18 q397) rfl rfl rfl (by decide +kernel) ⟨Nat.le_of_ble_eq_true rfl, Nat.le_of_ble_eq_true rfl⟩) ⟨fun a U g mk q => by obtain ⟨q0, q1, qP, qK, qD⟩ := q; exact ⟨q0, q1, qP, va_K.moved (u := U) (U := U.calling g mk a) (Vm.Alike.refl U.vm) qK, qD⟩, va_recv hK hP (ci := 1) (q0 := 0) rfl rfl, fun U hU hW => ⟨rfl, by rw [hU], by rw [hU]; exact hPc, va_K.moved hW.alike hKc, hDc.weaken (fun _ _ _ _ => trivial)⟩⟩ rfl rfl hl.1 rfl (lv_room (Nat.le_of_ble_eq_true rfl)) dL_law_179 ⟨by show _ ≤ 600096; omega, by show _ ≤ 7301386; omega⟩) hS (fun q _ h => hFc q h) hFc (fun v t H1 locs ht hvm hwv hB hzz hk1 hS => ?_)
        obtain ⟨hP1, hK1, hD1⟩ := hB
        rw [ht] at hP1
        obtain ⟨hP, hD⟩ := va_join (wr := [(hd, .inr (0, [.ref qk, .ref qb, .ref qo])), (qk, .inl (ck, 32, .inl fk)), (qb, .inl (cb, 8, .inl fb)), (qo, .inl (co, 8, .inl u))]) (w1 := [(hm, .inr (1, [.ref mk, .int lf, .int rt, .int v.1, .int v.2])), (mk, .inl (cM, 4, .inl g))]) hP hD [0, 1] [2, 3, 4, 5] rfl rfl (by decide) (by decide) hk1 hFc hP1 hD1
        generalize H1 = H at hP hS ⊢
        have hP : va_P (dC, dI) vwCl [(hd, .inr (0, [.ref qk, .ref qb, .ref qo])), (qk, .inl (ck, 32, .inl fk)), (qb, .inl (cb, 8, .inl fb)), (qo, .inl (co, 8, .inl u)), (hm, .inr (1, [.ref mk, .int lf, .int rt, .int v.1, .int v.2])), (mk, .inl (cM, 4, .inl g))] H := hP
        have hD : va_D (fun q : Nat => s.heap.size ≤ q) [(hd, .inr (0, [.ref qk, .ref qb, .ref qo])), (qk, .inl (ck, 32, .inl fk)), (qb, .inl (cb, 8, .inl fb)), (qo, .inl (co, 8, .inl u)), (hm, .inr (1, [.ref mk, .int lf, .int rt, .int v.1, .int v.2])), (mk, .inl (cM, 4, .inl g))] := hD
        refine lv_goto (tgt := 240) hx hb dL_law_182 (by decide) ?_
        have h5 := tq_linv hwu (hwv.trans (tq_C1 (xs (6 * k + 1)) g lf rt).symm) i1 i2 i3
        refine lv_iinc (v := nI (6 * (k + 1))) (lv' := [(3, .int (nI (6 * (k + 1)))), (0, .ref b), (1, .ref hd), (2, .ref hm)]) hx hb dL_law_240 hl (k := 3) rfl (by rw [show 6 * (k + 1) = 6 * k + 6 by omega]; exact tk_inc6 (6 * k)) (by decide) rfl (fun ls hl => ?_)
        refine lv_goto (tgt := 18) hx hb dL_law_243 (by decide) ?_
        refine W.widen (k := 6 + 7 * (k + 1)) (n := 60 + 106 * (k + 1)) (by omega) (by omega) ?_
        exact ih (k + 1) fk fb u g lf rt v.1 v.2 H locs (by omega) (by omega) i1 i2 i3 h5.1 h5.2 (hP.sub [0, 1, 2, 3, 4, 5] rfl) (hD.sub [0, 1, 2, 3, 4, 5] (by decide) rfl) hS ls (lv_sub hl [1, 2, 3, 0] rfl)
      · refine lv_tableIn (off := 152) (tgt := 185) hx hb dL_law_33 (by decide +kernel) (by decide +kernel) (by decide +kernel) (by decide) ?_
        refine lv_aload_n hx hb dL_law_185 rfl (lv_at hl 1 rfl) ?_
        refine lv_aload_n hx hb dL_law_186 rfl (lv_at hl 0 rfl) ?_
        refine lv_iload_n hx hb dL_law_187 rfl (lv_at hl 3 rfl) ?_
        refine lv_iconst (v := 1) hx hb dL_law_188 (by decide) ?_
        refine lv_iadd hx hb dL_law_189 ?_
        refine tk_as (nI (6 * k + 1)) (nI_add (6 * k) 1) ?_
        refine tk_sld hx hb hX hbl hbA hS (6 * k + 1) (by omega) (by omega) dL_law_190 ?_
        have hPc := hP.sub (ws' := [(hd, .inr (0, [.ref qk, .ref qb, .ref qo])), (qk, .inl (ck, 32, .inl fk)), (qb, .inl (cb, 8, .inl fb)), (qo, .inl (co, 8, .inl fo))]) [0, 1, 2, 3] rfl
        have hDc := hD.sub (ws' := [(hd, .inr (0, [.ref qk, .ref qb, .ref qo])), (qk, .inl (ck, 32, .inl fk)), (qb, .inl (cb, 8, .inl fb)), (qo, .inl (co, 8, .inl fo))]) [0, 1, 2, 3] (by decide) rfl
        have hKc := hK.sub (tys' := [(ck, .byte), (cb, .byte), (co, .byte)]) [0, 1, 2] rfl
        have hFc := va_free (wc := [(hd, .inr (0, [.ref qk, .ref qb, .ref qo])), (qk, .inl (ck, 32, .inl fk)), (qb, .inl (cb, 8, .inl fb)), (qo, .inl (co, 8, .inl fo))]) hD hS hA [0, 1, 2, 3] rfl
        refine va_callv (va_runV (As := [.int (xs (6 * k + 1))]) (rest := []) ⟨hx, hb, hml, hown, hts⟩ (metX0_open l dC dI hd qk qb qo ck cb co fk fb fo (xs (6 * k + 1)) H.size) (cwV 1 hts (lw_V q352 q353 q354 q17 q355) rfl rfl rfl (by decide +kernel) ⟨Nat.le_of_ble_eq_true rfl, Nat.le_of_ble_eq_true rfl⟩) ⟨fun a U g mk q => by obtain ⟨q0, q1, qP, qK, qD, qF⟩ := q; exact ⟨q0, q1, qP, va_K.moved (u := U) (U := U.calling g mk a) (Vm.Alike.refl U.vm) qK, qD, tk_FF.moved (u := U) (U := U.calling g mk a) (Vm.Alike.refl U.vm) qF⟩, va_recv hK hP (ci := 0) (q0 := 0) rfl rfl, fun U hU hW => ⟨rfl, by rw [hU], by rw [hU]; exact hPc, va_K.moved hW.alike hKc, hDc.weaken (fun _ _ _ _ => trivial), tk_FF.moved hW.alike hF⟩⟩ rfl rfl hl.1 rfl (lv_room (Nat.le_of_ble_eq_true rfl)) dL_law_191 ⟨by show _ ≤ 600096; omega, by show _ ≤ 7301386; omega⟩) hS (fun q _ h => hFc q h) hFc (fun u t H1 locs ht hvm hwu hB hzz hk1 hS => ?_)
        obtain ⟨hP1, hK1, hD1⟩ := hB
        rw [ht] at hP1
        obtain ⟨hP, hD⟩ := va_join (wr := [(hm, .inr (1, [.ref mk, .int lf, .int rt, .int ol, .int oo])), (mk, .inl (cM, 4, .inl g))]) (w1 := [(hd, .inr (0, [.ref qk, .ref qb, .ref qo])), (qk, .inl (ck, 32, .inl fk)), (qb, .inl (cb, 8, .inl fb)), (qo, .inl (co, 8, .inl u))]) hP hD [0, 1, 2, 3] [4, 5] rfl rfl (by decide) (by decide) hk1 hFc hP1 hD1
        generalize H1 = H at hP hS ⊢
        have hP : va_P (dC, dI) vwCl [(hm, .inr (1, [.ref mk, .int lf, .int rt, .int ol, .int oo])), (mk, .inl (cM, 4, .inl g)), (hd, .inr (0, [.ref qk, .ref qb, .ref qo])), (qk, .inl (ck, 32, .inl fk)), (qb, .inl (cb, 8, .inl fb)), (qo, .inl (co, 8, .inl u))] H := hP
        have hD : va_D (fun q : Nat => s.heap.size ≤ q) [(hm, .inr (1, [.ref mk, .int lf, .int rt, .int ol, .int oo])), (mk, .inl (cM, 4, .inl g)), (hd, .inr (0, [.ref qk, .ref qb, .ref qo])), (qk, .inl (ck, 32, .inl fk)), (qb, .inl (cb, 8, .inl fb)), (qo, .inl (co, 8, .inl u))] := hD
        refine lv_aload_n hx hb dL_law_194 rfl (lv_at hl 2 rfl) ?_
        refine lv_aload_n hx hb dL_law_195 rfl (lv_at hl 0 rfl) ?_
        refine lv_iload_n hx hb dL_law_196 rfl (lv_at hl 3 rfl) ?_
        refine lv_iconst (v := 1) hx hb dL_law_197 (by decide) ?_
        refine lv_iadd hx hb dL_law_198 ?_
        refine tk_as (nI (6 * k + 1)) (nI_add (6 * k) 1) ?_
        refine tk_sld hx hb hX hbl hbA hS (6 * k + 1) (by omega) (by omega) dL_law_199 ?_
        have hPc := hP.sub (ws' := [(hm, .inr (1, [.ref mk, .int lf, .int rt, .int ol, .int oo])), (mk, .inl (cM, 4, .inl g))]) [0, 1] rfl
        have hDc := hD.sub (ws' := [(hm, .inr (1, [.ref mk, .int lf, .int rt, .int ol, .int oo])), (mk, .inl (cM, 4, .inl g))]) [0, 1] (by decide) rfl
        have hKc := hK.sub (tys' := [(cM, .int)]) [3] rfl
        have hFc := va_free (wc := [(hm, .inr (1, [.ref mk, .int lf, .int rt, .int ol, .int oo])), (mk, .inl (cM, 4, .inl g))]) hD hS hA [0, 1] rfl
        refine va_callv (va_runV (As := [.int (xs (6 * k + 1))]) (rest := []) ⟨hx, hb, hml, hown, hts⟩ (metX1_open l dC dI hm mk cM g lf rt ol oo (xs (6 * k + 1)) H.size) (cwV 1 hts (lw_V q411 q412 q413 q18 q414) rfl rfl rfl (by decide +kernel) ⟨Nat.le_of_ble_eq_true rfl, Nat.le_of_ble_eq_true rfl⟩) ⟨fun a U g mk q => by obtain ⟨q0, q1, qP, qK, qD⟩ := q; exact ⟨q0, q1, qP, va_K.moved (u := U) (U := U.calling g mk a) (Vm.Alike.refl U.vm) qK, qD⟩, va_recv hK hP (ci := 1) (q0 := 0) rfl rfl, fun U hU hW => ⟨rfl, by rw [hU], by rw [hU]; exact hPc, va_K.moved hW.alike hKc, hDc.weaken (fun _ _ _ _ => trivial)⟩⟩ rfl rfl hl.1 rfl (lv_room (Nat.le_of_ble_eq_true rfl)) dL_law_200 ⟨by show _ ≤ 600096; omega, by show _ ≤ 7301386; omega⟩) hS (fun q _ h => hFc q h) hFc (fun v t H1 locs ht hvm hwv hB hzz hk1 hS => ?_)
        obtain ⟨hP1, hK1, hD1⟩ := hB
        rw [ht] at hP1
        obtain ⟨hP, hD⟩ := va_join (wr := [(hd, .inr (0, [.ref qk, .ref qb, .ref qo])), (qk, .inl (ck, 32, .inl fk)), (qb, .inl (cb, 8, .inl fb)), (qo, .inl (co, 8, .inl u))]) (w1 := [(hm, .inr (1, [.ref mk, .int lf, .int rt, .int v.1, .int v.2])), (mk, .inl (cM, 4, .inl g))]) hP hD [0, 1] [2, 3, 4, 5] rfl rfl (by decide) (by decide) hk1 hFc hP1 hD1
        generalize H1 = H at hP hS ⊢
        have hP : va_P (dC, dI) vwCl [(hd, .inr (0, [.ref qk, .ref qb, .ref qo])), (qk, .inl (ck, 32, .inl fk)), (qb, .inl (cb, 8, .inl fb)), (qo, .inl (co, 8, .inl u)), (hm, .inr (1, [.ref mk, .int lf, .int rt, .int v.1, .int v.2])), (mk, .inl (cM, 4, .inl g))] H := hP
        have hD : va_D (fun q : Nat => s.heap.size ≤ q) [(hd, .inr (0, [.ref qk, .ref qb, .ref qo])), (qk, .inl (ck, 32, .inl fk)), (qb, .inl (cb, 8, .inl fb)), (qo, .inl (co, 8, .inl u)), (hm, .inr (1, [.ref mk, .int lf, .int rt, .int v.1, .int v.2])), (mk, .inl (cM, 4, .inl g))] := hD
        refine lv_goto (tgt := 240) hx hb dL_law_203 (by decide) ?_
        have h5 := tq_linv hwu (hwv.trans (tq_C0 (xs (6 * k + 1)) g lf rt).symm) i1 i2 i3
        refine lv_iinc (v := nI (6 * (k + 1))) (lv' := [(3, .int (nI (6 * (k + 1)))), (0, .ref b), (1, .ref hd), (2, .ref hm)]) hx hb dL_law_240 hl (k := 3) rfl (by rw [show 6 * (k + 1) = 6 * k + 6 by omega]; exact tk_inc6 (6 * k)) (by decide) rfl (fun ls hl => ?_)
        refine lv_goto (tgt := 18) hx hb dL_law_243 (by decide) ?_
        refine W.widen (k := 6 + 7 * (k + 1)) (n := 60 + 106 * (k + 1)) (by omega) (by omega) ?_
        exact ih (k + 1) fk fb u g lf rt v.1 v.2 H locs (by omega) (by omega) i1 i2 i3 h5.1 h5.2 (hP.sub [0, 1, 2, 3, 4, 5] rfl) (hD.sub [0, 1, 2, 3, 4, 5] (by decide) rfl) hS ls (lv_sub hl [1, 2, 3, 0] rfl)
      · refine lv_tableIn (off := 173) (tgt := 206) hx hb dL_law_33 (by decide +kernel) (by decide +kernel) (by decide +kernel) (by decide) ?_
        refine lv_aload_n hx hb dL_law_206 rfl (lv_at hl 1 rfl) ?_
        have hPc := hP.sub (ws' := [(hd, .inr (0, [.ref qk, .ref qb, .ref qo])), (qb, .inl (cb, 8, .inl fb)), (qo, .inl (co, 8, .inl fo))]) [0, 2, 3] rfl
        have hDc := hD.sub (ws' := [(hd, .inr (0, [.ref qk, .ref qb, .ref qo])), (qb, .inl (cb, 8, .inl fb)), (qo, .inl (co, 8, .inl fo))]) [0, 2, 3] (by decide) rfl
        have hKc := hK.sub (tys' := [(cb, .byte), (co, .byte)]) [1, 2] rfl
        have hFc := va_free (wc := [(hd, .inr (0, [.ref qk, .ref qb, .ref qo])), (qb, .inl (cb, 8, .inl fb)), (qo, .inl (co, 8, .inl fo))]) hD hS hA [0, 2, 3] rfl
        refine va_callv (va_runV (As := []) (rest := []) ⟨hx, hb, hml, hown, hts⟩ (metX0_again l dC dI hd qk qb qo cb co fb fo H.size) (cwV 0 hts (lw_V q356 q357 q358 q17 q359) rfl rfl rfl (by decide +kernel) ⟨Nat.le_of_ble_eq_true rfl, Nat.le_of_ble_eq_true rfl⟩) ⟨fun a U g mk q => by obtain ⟨q0, q1, qP, qK, qD⟩ := q; exact ⟨q0, q1, qP, va_K.moved (u := U) (U := U.calling g mk a) (Vm.Alike.refl U.vm) qK, qD⟩, va_recv hK hP (ci := 0) (q0 := 0) rfl rfl, fun U hU hW => ⟨rfl, by rw [hU], by rw [hU]; exact hPc, va_K.moved hW.alike hKc, hDc.weaken (fun _ _ _ _ => trivial)⟩⟩ rfl rfl hl.1 rfl (lv_room (Nat.le_of_ble_eq_true rfl)) dL_law_207 ⟨by show _ ≤ 600096; omega, by show _ ≤ 7301386; omega⟩) hS (fun q _ h => hFc q h) hFc (fun u t H1 locs ht hvm hwu hB hzz hk1 hS => ?_)
        obtain ⟨hP1, hK1, hD1⟩ := hB
        rw [ht] at hP1
        obtain ⟨hP, hD⟩ := va_join (wr := [(qk, .inl (ck, 32, .inl fk)), (hm, .inr (1, [.ref mk, .int lf, .int rt, .int ol, .int oo])), (mk, .inl (cM, 4, .inl g))]) (w1 := [(hd, .inr (0, [.ref qk, .ref qb, .ref qo])), (qb, .inl (cb, 8, .inl u)), (qo, .inl (co, 8, .inl fo))]) hP hD [0, 2, 3] [1, 4, 5] rfl rfl (by decide) (by decide) hk1 hFc hP1 hD1
        generalize H1 = H at hP hS ⊢
        have hP : va_P (dC, dI) vwCl [(qk, .inl (ck, 32, .inl fk)), (hm, .inr (1, [.ref mk, .int lf, .int rt, .int ol, .int oo])), (mk, .inl (cM, 4, .inl g)), (hd, .inr (0, [.ref qk, .ref qb, .ref qo])), (qb, .inl (cb, 8, .inl u)), (qo, .inl (co, 8, .inl fo))] H := hP
        have hD : va_D (fun q : Nat => s.heap.size ≤ q) [(qk, .inl (ck, 32, .inl fk)), (hm, .inr (1, [.ref mk, .int lf, .int rt, .int ol, .int oo])), (mk, .inl (cM, 4, .inl g)), (hd, .inr (0, [.ref qk, .ref qb, .ref qo])), (qb, .inl (cb, 8, .inl u)), (qo, .inl (co, 8, .inl fo))] := hD
        refine lv_aload_n hx hb dL_law_210 rfl (lv_at hl 2 rfl) ?_
        have hPc := hP.sub (ws' := [(hm, .inr (1, [.ref mk, .int lf, .int rt, .int ol, .int oo]))]) [1] rfl
        have hDc := hD.sub (ws' := [(hm, .inr (1, [.ref mk, .int lf, .int rt, .int ol, .int oo]))]) [1] (by decide) rfl
        have hKc := hK.sub (tys' := []) [] rfl
        have hFc := va_free (wc := [(hm, .inr (1, [.ref mk, .int lf, .int rt, .int ol, .int oo]))]) hD hS hA [1] rfl
        refine va_callv (va_runV (As := []) (rest := []) ⟨hx, hb, hml, hown, hts⟩ (metX1_again l dC dI hm mk lf rt ol oo H.size) (cwV 0 hts (lw_V q420 q421 q422 q18 q423) rfl rfl rfl (by decide +kernel) ⟨Nat.le_of_ble_eq_true rfl, Nat.le_of_ble_eq_true rfl⟩) ⟨fun a U g mk q => by obtain ⟨q0, q1, qP, qK, qD⟩ := q; exact ⟨q0, q1, qP, va_K.moved (u := U) (U := U.calling g mk a) (Vm.Alike.refl U.vm) qK, qD⟩, va_recv hK hP (ci := 1) (q0 := 1) rfl rfl, fun U hU hW => ⟨rfl, by rw [hU], by rw [hU]; exact hPc, va_K.moved hW.alike hKc, hDc.weaken (fun _ _ _ _ => trivial)⟩⟩ rfl rfl hl.1 rfl (lv_room (Nat.le_of_ble_eq_true rfl)) dL_law_211 ⟨by show _ ≤ 600096; omega, by show _ ≤ 7301386; omega⟩) hS (fun q _ h => hFc q h) hFc (fun _v t H1 locs ht hvm _hwv hB hzz hk1 hS => ?_)
        obtain ⟨hP1, hK1, hD1⟩ := hB
        rw [ht] at hP1
        obtain ⟨hP, hD⟩ := va_join (wr := [(qk, .inl (ck, 32, .inl fk)), (mk, .inl (cM, 4, .inl g)), (hd, .inr (0, [.ref qk, .ref qb, .ref qo])), (qb, .inl (cb, 8, .inl u)), (qo, .inl (co, 8, .inl fo))]) (w1 := [(hm, .inr (1, [.ref mk, .int ol, .int oo, .int ol, .int oo]))]) hP hD [1] [0, 2, 3, 4, 5] rfl rfl (by decide) (by decide) hk1 hFc hP1 hD1
        generalize H1 = H at hP hS ⊢
        have hP : va_P (dC, dI) vwCl [(qk, .inl (ck, 32, .inl fk)), (mk, .inl (cM, 4, .inl g)), (hd, .inr (0, [.ref qk, .ref qb, .ref qo])), (qb, .inl (cb, 8, .inl u)), (qo, .inl (co, 8, .inl fo)), (hm, .inr (1, [.ref mk, .int ol, .int oo, .int ol, .int oo]))] H := hP
        have hD : va_D (fun q : Nat => s.heap.size ≤ q) [(qk, .inl (ck, 32, .inl fk)), (mk, .inl (cM, 4, .inl g)), (hd, .inr (0, [.ref qk, .ref qb, .ref qo])), (qb, .inl (cb, 8, .inl u)), (qo, .inl (co, 8, .inl fo)), (hm, .inr (1, [.ref mk, .int ol, .int oo, .int ol, .int oo]))] := hD
        refine lv_goto (tgt := 240) hx hb dL_law_214 (by decide) ?_
        refine lv_iinc (v := nI (6 * (k + 1))) (lv' := [(3, .int (nI (6 * (k + 1)))), (0, .ref b), (1, .ref hd), (2, .ref hm)]) hx hb dL_law_240 hl (k := 3) rfl (by rw [show 6 * (k + 1) = 6 * k + 6 by omega]; exact tk_inc6 (6 * k)) (by decide) rfl (fun ls hl => ?_)
        refine lv_goto (tgt := 18) hx hb dL_law_243 (by decide) ?_
        refine W.widen (k := 6 + 7 * (k + 1)) (n := 60 + 106 * (k + 1)) (by omega) (by omega) ?_
        exact ih (k + 1) fk u fo g ol oo ol oo H locs (by omega) (by omega) i1 (hwu.1.trans i4) (hwu.2.trans i5) i4 i5 (hP.sub [2, 0, 3, 4, 5, 1] rfl) (hD.sub [2, 0, 3, 4, 5, 1] (by decide) rfl) hS ls (lv_sub hl [1, 2, 3, 0] rfl)
      · refine lv_tableIn (off := 184) (tgt := 217) hx hb dL_law_33 (by decide +kernel) (by decide +kernel) (by decide +kernel) (by decide) ?_
        refine lv_aload_n hx hb dL_law_217 rfl (lv_at hl 1 rfl) ?_
        refine lv_aload_n hx hb dL_law_218 rfl (lv_at hl 0 rfl) ?_
        refine lv_iload_n hx hb dL_law_219 rfl (lv_at hl 3 rfl) ?_
        refine lv_iconst (v := 1) hx hb dL_law_220 (by decide) ?_
        refine lv_iadd hx hb dL_law_221 ?_
        refine tk_as (nI (6 * k + 1)) (nI_add (6 * k) 1) ?_
        refine tk_sld hx hb hX hbl hbA hS (6 * k + 1) (by omega) (by omega) dL_law_222 ?_
        have hPc := hP.sub (ws' := [(hd, .inr (0, [.ref qk, .ref qb, .ref qo])), (qo, .inl (co, 8, .inl fo))]) [0, 3] rfl
        have hKc := hK.sub (tys' := [(co, .byte)]) [2] rfl
        refine vp_callSi (W.runV (As := [.int (xs (6 * k + 1))]) (rest := []) ⟨hx, hb, hml, hown, hts⟩ (metX0_out l dC dI hd qk qb qo co fo (xs (6 * k + 1))) (cwV 1 hts (lw_V q360 q361 q362 q17 q363) rfl rfl rfl (by decide +kernel) ⟨Nat.le_of_ble_eq_true rfl, Nat.le_of_ble_eq_true rfl⟩) ⟨fun a U g mk q => by obtain ⟨q0, qP, qK⟩ := q; exact ⟨q0, qP, va_K.moved (u := U) (U := U.calling g mk a) (Vm.Alike.refl U.vm) qK⟩, va_recv hK hP (ci := 0) (q0 := 0) rfl rfl, fun U hU hW => ⟨rfl, by rw [hU]; exact hPc, va_K.moved hW.alike hKc⟩⟩ rfl rfl hl.1 rfl (lv_room (Nat.le_of_ble_eq_true rfl)) dL_law_223 ⟨by show _ ≤ 600096; omega, by show _ ≤ 7301386; omega⟩) (fun r1 hr1 => ?_)
        refine lv_aload_n hx hb dL_law_226 rfl (lv_at hl 2 rfl) ?_
        refine lv_aload_n hx hb dL_law_227 rfl (lv_at hl 0 rfl) ?_
        refine lv_iload_n hx hb dL_law_228 rfl (lv_at hl 3 rfl) ?_
        refine lv_iconst (v := 1) hx hb dL_law_229 (by decide) ?_
        refine lv_iadd hx hb dL_law_230 ?_
        refine tk_as (nI (6 * k + 1)) (nI_add (6 * k) 1) ?_
        refine tk_sld hx hb hX hbl hbA hS (6 * k + 1) (by omega) (by omega) dL_law_231 ?_
        have hPc := hP.sub (ws' := [(hm, .inr (1, [.ref mk, .int lf, .int rt, .int ol, .int oo]))]) [4] rfl
        have hKc := hK.sub (tys' := []) [] rfl
        refine vp_callSi (W.runV (As := [.int (xs (6 * k + 1))]) (rest := [.int r1]) ⟨hx, hb, hml, hown, hts⟩ (metX1_out l dC dI hm mk lf rt ol oo (xs (6 * k + 1))) (cwV 1 hts (lw_V q424 q425 q426 q18 q427) rfl rfl rfl (by decide +kernel) ⟨Nat.le_of_ble_eq_true rfl, Nat.le_of_ble_eq_true rfl⟩) ⟨fun a U g mk q => by obtain ⟨q0, qP, qK⟩ := q; exact ⟨q0, qP, va_K.moved (u := U) (U := U.calling g mk a) (Vm.Alike.refl U.vm) qK⟩, va_recv hK hP (ci := 1) (q0 := 4) rfl rfl, fun U hU hW => ⟨rfl, by rw [hU]; exact hPc, va_K.moved hW.alike hKc⟩⟩ rfl rfl hl.1 rfl (lv_room (Nat.le_of_ble_eq_true rfl)) dL_law_232 ⟨by show _ ≤ 600096; omega, by show _ ≤ 7301386; omega⟩) (fun r2 hr2 => ?_)
        refine lv_icmp_eq (tgt := 240) hx hb dL_law_235 (by decide) (fun _ => ?_) (fun h8 => absurd (by rw [hr1, hr2]; exact tq_outs i4 i5 (tq_lt (pk_andIn _ (m := 7) 3 (by decide) (by omega)))) h8)
        refine lv_iinc (v := nI (6 * (k + 1))) (lv' := [(3, .int (nI (6 * (k + 1)))), (0, .ref b), (1, .ref hd), (2, .ref hm)]) hx hb dL_law_240 hl (k := 3) rfl (by rw [show 6 * (k + 1) = 6 * k + 6 by omega]; exact tk_inc6 (6 * k)) (by decide) rfl (fun ls hl => ?_)
        refine lv_goto (tgt := 18) hx hb dL_law_243 (by decide) ?_
        refine W.widen (k := 6 + 7 * (k + 1)) (n := 60 + 106 * (k + 1)) (by omega) (by omega) ?_
        exact ih (k + 1) fk fb fo g lf rt ol oo H locs (by omega) (by omega) i1 i2 i3 i4 i5 (hP.sub [0, 1, 2, 3, 4, 5] rfl) (hD.sub [0, 1, 2, 3, 4, 5] (by decide) rfl) hS ls (lv_sub hl [1, 2, 3, 0] rfl)
      · refine lv_tableOut (tgt := 240) hx hb dL_law_33 (by decide +kernel) (by decide) ?_
        refine lv_iinc (v := nI (6 * (k + 1))) (lv' := [(3, .int (nI (6 * (k + 1)))), (0, .ref b), (1, .ref hd), (2, .ref hm)]) hx hb dL_law_240 hl (k := 3) rfl (by rw [show 6 * (k + 1) = 6 * k + 6 by omega]; exact tk_inc6 (6 * k)) (by decide) rfl (fun ls hl => ?_)
        refine lv_goto (tgt := 18) hx hb dL_law_243 (by decide) ?_
        refine W.widen (k := 6 + 7 * (k + 1)) (n := 60 + 106 * (k + 1)) (by omega) (by omega) ?_
        exact ih (k + 1) fk fb fo g lf rt ol oo H locs (by omega) (by omega) i1 i2 i3 i4 i5 (hP.sub [0, 1, 2, 3, 4, 5] rfl) (hD.sub [0, 1, 2, 3, 4, 5] (by decide) rfl) hS ls (lv_sub hl [1, 2, 3, 0] rfl)
      · refine lv_tableOut (tgt := 240) hx hb dL_law_33 (by decide +kernel) (by decide) ?_
        refine lv_iinc (v := nI (6 * (k + 1))) (lv' := [(3, .int (nI (6 * (k + 1)))), (0, .ref b), (1, .ref hd), (2, .ref hm)]) hx hb dL_law_240 hl (k := 3) rfl (by rw [show 6 * (k + 1) = 6 * k + 6 by omega]; exact tk_inc6 (6 * k)) (by decide) rfl (fun ls hl => ?_)
        refine lv_goto (tgt := 18) hx hb dL_law_243 (by decide) ?_
        refine W.widen (k := 6 + 7 * (k + 1)) (n := 60 + 106 * (k + 1)) (by omega) (by omega) ?_
        exact ih (k + 1) fk fb fo g lf rt ol oo H locs (by omega) (by omega) i1 i2 i3 i4 i5 (hP.sub [0, 1, 2, 3, 4, 5] rfl) (hD.sub [0, 1, 2, 3, 4, 5] (by decide) rfl) hS ls (lv_sub hl [1, 2, 3, 0] rfl)
set_option maxHeartbeats 4000000 in
set_option maxRecDepth 100000 in
theorem whole_start {p : Program} {e : Env} {s : State} {m : MethodId} {below : List Frame} {meth : Method} {c : Code} (l : Launch) (hflags : l.flags = flags0) {b L : Nat} {xs : Nat → Int32} (hL : L ≤ 288) (C0 : lw_At p s m meth c b L xs) : W p l e room_1 s m #[Value.ref b] below meth c s.heap [] 0 0 (lw_Z below #[Value.ref b] s) (entryFrame m ([Value.ref b] : List Value).toArray 4) := by
  obtain ⟨hx, hb, hr, hml, hown, hts0, hX, hbl, hlocks, hgv⟩ := id C0
  have hts : ∀ w ∈ lw_all, w.before #[Value.ref b] s = true := fun w h => hts0 w (lw_all_tbl h)
  have hA : ∀ q : Nat, s.heap.size ≤ q → (fun q : Nat => s.heap.size ≤ q) q := fun _ h => h
  have hbA : ¬ (fun q : Nat => s.heap.size ≤ q) b := Nat.not_le.mpr hbl
  obtain ⟨dC, dI, hKc⟩ := classes_all hts0
  have hF : tk_FF s := ⟨⟨va_Fw.of (hts0 _ q142) (hts0 _ q141) (hts0 _ q147) (hts0 _ q145) (hts0 _ q143), va_Fw.of (hts0 _ q255) (hts0 _ q254) (hts0 _ q259) (hts0 _ q257) (hts0 _ q143)⟩, ⟨va_Fw.of (hts0 _ q142) (hts0 _ q141) (hts0 _ q235) (hts0 _ q233) (hts0 _ q231), va_Fw.of (hts0 _ q255) (hts0 _ q254) (hts0 _ q330) (hts0 _ q328) (hts0 _ q231)⟩⟩
  have hS : va_S (fun q : Nat => s.heap.size ≤ q) s.heap s.heap [] := va_S.rf
  have hK : va_K (dC, dI) vwCl [] s := ⟨hKc, fun k q h => by simp at h⟩
  have hP : va_P (dC, dI) vwCl [] s.heap := fun k q h => by simp at h
  have hD : va_D (fun q : Nat => s.heap.size ≤ q) [] := ⟨fun i j p q h => by simp at h, fun k q h => by simp at h⟩
  have hl := lv_entry ([.ref b]) (n := 4) (Nat.le_of_ble_eq_true rfl)
  rw [lg_entry_eq]
  generalize (lg_sl ([.ref b]) ++ List.replicate (4 - (lg_sl ([.ref b])).length) Slot.unset).toArray = ls at hl ⊢
  have hl : lv_has ls 4 [(0, .ref b)] := hl
  refine va_new (ci := 0) (fs := [.null, .null, .null]) (C := RX0) (T := TX0) (N := 3) hx hb hts in_X0 tyX0 tyX0_ok hown (hts _ q31) (hts _ q32) (hts _ q17) hK hP hD hS hA rfl (fun j hj => by rcases (show j = 0 ∨ j = 1 ∨ j = 2 by omega) with rfl | rfl | rfl <;> rfl) (Nat.le_of_ble_eq_true rfl) (Nat.le_of_ble_eq_true rfl) dL_law_0 (fun hd H hP hD hS => ?_)
  have hP : va_P (dC, dI) vwCl [(hd, .inr (0, [.null, .null, .null]))] H := hP
  have hD : va_D (fun q : Nat => s.heap.size ≤ q) [(hd, .inr (0, [.null, .null, .null]))] := hD
  refine lv_dup hx hb dL_law_3 rfl ?_
  have hPc := hP.sub (ws' := [(hd, .inr (0, [.null, .null, .null]))]) [0] rfl
  have hDc := hD.sub (ws' := [(hd, .inr (0, [.null, .null, .null]))]) [0] (by decide) rfl
  have hKc := hK.sub (tys' := []) [] rfl
  have hFc := va_free (wc := [(hd, .inr (0, [.null, .null, .null]))]) hD hS hA [0] rfl
  refine va_callv (va_runI (As := []) (rest := [.ref hd]) ⟨hx, hb, hml, hown, hts⟩ (metX0_init l dC dI hd H.size) (cwI 0 hts (lw_meth q35) rfl rfl rfl (hts _ q17) (hts _ q33) (hts _ q34) rfl (by decide +kernel) ⟨Nat.le_of_ble_eq_true rfl, Nat.le_of_ble_eq_true rfl⟩) ⟨fun a U g mk q => by obtain ⟨q0, q1, qP, qK, qD⟩ := q; exact ⟨q0, q1, qP, va_K.moved (u := U) (U := U.calling g mk a) (Vm.Alike.refl U.vm) qK, qD⟩, fun U hU hW => ⟨rfl, by rw [hU], by rw [hU]; exact hPc, va_K.moved hW.alike hKc, hDc.weaken (fun _ _ _ _ => trivial)⟩⟩ rfl rfl hl.1 rfl (lv_room (Nat.le_of_ble_eq_true rfl)) dL_law_4 ⟨Nat.le_of_ble_eq_true rfl, Nat.le_of_ble_eq_true rfl⟩) hS (fun q _ h => hFc q h) hFc (fun _u t H1 locs ht hvm _hw hB hzz hk1 hS => ?_)
  obtain ⟨qk, qb, qo, ck, cb, co, hP1, hK1, hD1⟩ := hB
  rw [ht] at hP1
  obtain ⟨hP, hD⟩ := va_join (wr := []) (w1 := [(hd, .inr (0, [.ref qk, .ref qb, .ref qo])), (qk, .inl (ck, 32, .inl (fun _ => 0))), (qb, .inl (cb, 8, .inl (fun _ => 0))), (qo, .inl (co, 8, .inl (fun _ => 0)))]) hP hD [0] [] rfl rfl (by decide) (by decide) hk1 hFc hP1 hD1
  have hK := hK.app ((va_K.moved hvm.symm hK1).sub (tys' := [(ck, .byte), (cb, .byte), (co, .byte)]) [0, 1, 2] rfl)
  generalize H1 = H at hP hS ⊢
  have hP : va_P (dC, dI) vwCl [(hd, .inr (0, [.ref qk, .ref qb, .ref qo])), (qk, .inl (ck, 32, .inl (fun _ => 0))), (qb, .inl (cb, 8, .inl (fun _ => 0))), (qo, .inl (co, 8, .inl (fun _ => 0)))] H := hP
  have hD : va_D (fun q : Nat => s.heap.size ≤ q) [(hd, .inr (0, [.ref qk, .ref qb, .ref qo])), (qk, .inl (ck, 32, .inl (fun _ => 0))), (qb, .inl (cb, 8, .inl (fun _ => 0))), (qo, .inl (co, 8, .inl (fun _ => 0)))] := hD
  have hK : va_K (dC, dI) vwCl [(ck, .byte), (cb, .byte), (co, .byte)] s := hK
  refine lv_astore_n (lv' := [(1, .ref hd), (0, .ref b)]) hx hb dL_law_7 rfl hl (by decide) rfl (fun ls hl => ?_)
  refine va_new (ci := 1) (fs := [.null, .int 0, .int 0, .int 0, .int 0]) (C := RX1) (T := TX1) (N := 5) hx hb hts in_X1 tyX1 tyX1_ok hown (hts _ q364) (hts _ q365) (hts _ q18) hK hP hD hS hA rfl (fun j hj => by rcases (show j = 0 ∨ j = 1 ∨ j = 2 ∨ j = 3 ∨ j = 4 by omega) with rfl | rfl | rfl | rfl | rfl <;> rfl) (Nat.le_of_ble_eq_true rfl) (Nat.le_of_ble_eq_true rfl) dL_law_8 (fun hm H hP hD hS => ?_)
  have hP : va_P (dC, dI) vwCl [(hd, .inr (0, [.ref qk, .ref qb, .ref qo])), (qk, .inl (ck, 32, .inl (fun _ => 0))), (qb, .inl (cb, 8, .inl (fun _ => 0))), (qo, .inl (co, 8, .inl (fun _ => 0))), (hm, .inr (1, [.null, .int 0, .int 0, .int 0, .int 0]))] H := hP
  have hD : va_D (fun q : Nat => s.heap.size ≤ q) [(hd, .inr (0, [.ref qk, .ref qb, .ref qo])), (qk, .inl (ck, 32, .inl (fun _ => 0))), (qb, .inl (cb, 8, .inl (fun _ => 0))), (qo, .inl (co, 8, .inl (fun _ => 0))), (hm, .inr (1, [.null, .int 0, .int 0, .int 0, .int 0]))] := hD
  refine lv_dup hx hb dL_law_11 rfl ?_
  have hPc := hP.sub (ws' := [(hm, .inr (1, [.null, .int 0, .int 0, .int 0, .int 0]))]) [4] rfl
  have hDc := hD.sub (ws' := [(hm, .inr (1, [.null, .int 0, .int 0, .int 0, .int 0]))]) [4] (by decide) rfl
  have hKc := hK.sub (tys' := []) [] rfl
  have hFc := va_free (wc := [(hm, .inr (1, [.null, .int 0, .int 0, .int 0, .int 0]))]) hD hS hA [4] rfl
  refine va_callv (va_runI (As := []) (rest := [.ref hm]) ⟨hx, hb, hml, hown, hts⟩ (metX1_init l dC dI hm H.size) (cwI 0 hts (lw_meth q368) rfl rfl rfl (hts _ q18) (hts _ q366) (hts _ q367) rfl (by decide +kernel) ⟨Nat.le_of_ble_eq_true rfl, Nat.le_of_ble_eq_true rfl⟩) ⟨fun a U g mk q => by obtain ⟨q0, q1, qP, qK, qD⟩ := q; exact ⟨q0, q1, qP, va_K.moved (u := U) (U := U.calling g mk a) (Vm.Alike.refl U.vm) qK, qD⟩, fun U hU hW => ⟨rfl, by rw [hU], by rw [hU]; exact hPc, va_K.moved hW.alike hKc, hDc.weaken (fun _ _ _ _ => trivial)⟩⟩ rfl rfl hl.1 rfl (lv_room (Nat.le_of_ble_eq_true rfl)) dL_law_12 ⟨Nat.le_of_ble_eq_true rfl, Nat.le_of_ble_eq_true rfl⟩) hS (fun q _ h => hFc q h) hFc (fun _u t H1 locs ht hvm _hw hB hzz hk1 hS => ?_)
  obtain ⟨mk, cM, hP1, hK1, hD1⟩ := hB
  rw [ht] at hP1
  obtain ⟨hP, hD⟩ := va_join (wr := [(hd, .inr (0, [.ref qk, .ref qb, .ref qo])), (qk, .inl (ck, 32, .inl (fun _ => 0))), (qb, .inl (cb, 8, .inl (fun _ => 0))), (qo, .inl (co, 8, .inl (fun _ => 0)))]) (w1 := [(hm, .inr (1, [.ref mk, .int 0, .int 0, .int 0, .int 0])), (mk, .inl (cM, 4, .inl (fun _ => 0)))]) hP hD [4] [0, 1, 2, 3] rfl rfl (by decide) (by decide) hk1 hFc hP1 hD1
  have hK := hK.app ((va_K.moved hvm.symm hK1).sub (tys' := [(cM, .int)]) [0] rfl)
  generalize H1 = H at hP hS ⊢
  have hP : va_P (dC, dI) vwCl [(hd, .inr (0, [.ref qk, .ref qb, .ref qo])), (qk, .inl (ck, 32, .inl (fun _ => 0))), (qb, .inl (cb, 8, .inl (fun _ => 0))), (qo, .inl (co, 8, .inl (fun _ => 0))), (hm, .inr (1, [.ref mk, .int 0, .int 0, .int 0, .int 0])), (mk, .inl (cM, 4, .inl (fun _ => 0)))] H := hP
  have hD : va_D (fun q : Nat => s.heap.size ≤ q) [(hd, .inr (0, [.ref qk, .ref qb, .ref qo])), (qk, .inl (ck, 32, .inl (fun _ => 0))), (qb, .inl (cb, 8, .inl (fun _ => 0))), (qo, .inl (co, 8, .inl (fun _ => 0))), (hm, .inr (1, [.ref mk, .int 0, .int 0, .int 0, .int 0])), (mk, .inl (cM, 4, .inl (fun _ => 0)))] := hD
  have hK : va_K (dC, dI) vwCl [(ck, .byte), (cb, .byte), (co, .byte), (cM, .int)] s := hK
  refine lv_astore_n (lv' := [(2, .ref hm), (1, .ref hd), (0, .ref b)]) hx hb dL_law_15 rfl hl (by decide) rfl (fun ls hl => ?_)
  refine lv_iconst (v := 0) hx hb dL_law_16 (by decide) ?_
  refine tk_as (nI (6 * 0)) (by decide +kernel) ?_
  refine lv_istore_n (lv' := [(3, .int (nI (6 * 0))), (2, .ref hm), (1, .ref hd), (0, .ref b)]) hx hb dL_law_17 rfl hl (by decide) rfl (fun ls hl => ?_)
  refine W.widen (k := 6 + 7 * 0) (n := 60 + 106 * 0) (Nat.le_of_ble_eq_true rfl) (Nat.le_of_ble_eq_true rfl) ?_
  exact law_loop l hL C0 hF hK 49 0 (fun _ => 0) (fun _ => 0) (fun _ => 0) (fun _ => 0) 0 0 0 0 H locs rfl (Nat.zero_le _) (fun j _ => (tq_w_z (4 * j)).symm) (tq_w_z 0) (tq_w_z 4) (tq_w_z 0) (tq_w_z 4) hP hD hS ls (lv_sub hl [3, 2, 1, 0] rfl)
end
section
/-! THE CLAIM: the skeleton's end, as the kit prints it -/
set_option maxHeartbeats 4000000 in
theorem lw_walk (l : Launch) (hflags : l.flags = flags0) (b : Addr) (xs : List Int32) : MetFree l x (headSpec (Jvm.Cond.code x code maxLocals ret :: tables_1) room_1) (lw_P b xs) (fun _ _ _ _ _ => True) lw_Q := by
  refine MetFree.of_bodyS (code := code) (maxLocals := maxLocals) (ret := ret) (by decide) ?_ ?_
  · intro args s m h hn
    obtain ⟨meth, c, h1, h2, h3, h4, h5, h6, -, -⟩ := Cond.code_spec hn (atoms_spec (ws := Jvm.Cond.code x code maxLocals ret :: tables_1) h _ List.mem_cons_self)
    exact ⟨meth, c, h1, h2, h3, h4, h5, h6⟩
  · intro p e s m args below meth c s₁ B hml0 hP _
    obtain ⟨rfl, hx, hbd, hgv⟩ := hP
    obtain ⟨scr, harrAt, hlist, hof, hsmall⟩ := hx
    obtain ⟨hcb, hkn, -, -⟩ := State.arrayAt?_spec harrAt
    have hown : s.vm.findClass R_law = some m.cls := findClass_of_methodNamed B.named
    have hts0 : ∀ c ∈ (Jvm.Cond.code x code maxLocals ret :: tables_1), c.before #[Value.ref b] s = true := atoms_spec (ws := Jvm.Cond.code x code maxLocals ret :: tables_1) B.pre
    have hts : ∀ w ∈ lw_tbl, w.before #[Value.ref b] s = true := k2_hts_sels lw_privs (fun w hw => hts0 w (List.mem_cons_of_mem _ hw)) lw_privs_ok
    have hml : c.maxLocals = 4 := B.maxLocals_eq (hts0 _ List.mem_cons_self)
    have X₀ : Stand p l e room_1 s m #[Value.ref b] below meth c s₁ [] 0 0 := Stand.of_body B
    have hh0 : s₁.heap = s.heap := by rw [B.state]; rfl
    have hsz : scr.slots.size = xs.length := by rw [← Array.length_toList, hlist, List.length_map]
    have hval : ∀ j : Nat, j < xs.length → scr.slots[j]? = some (.int (xs.getD j 0)) := fun j hj => by
      rw [← Array.getElem?_toList, hlist]
      simp [hj]
    have hbl : b < s.heap.size := (Array.getElem?_eq_some_iff.mp hcb).1
    have hX : va_X b xs.length (fun j => xs.getD j 0) s s.heap := ⟨scr, hcb, hof, hkn, hsz, hval⟩
    have K : W p l e room_1 s m #[Value.ref b] below meth c s₁.heap [] 0 0 (lw_Z below #[Value.ref b] s) (entryFrame m ([Value.ref b] : List Value).toArray 4) := by
      rw [hh0]
      exact whole_start l hflags hbd ⟨B.exec, B.bytes, B.returns, hml, hown, hts, hX, hbl, B.notSynchronized, hgv⟩
    obtain ⟨t, a1, o, b1, b2, b3⟩ := K s₁ rfl X₀
    exact ⟨t, o, a1, b1, b2, b3⟩
theorem lw_pre_spec {args : Array Value} {s : State} (h : (Jvm.Cond.and given_1 narrow_1).before args s = true) (hr : rest_1_c.before args s = true) : ∃ (b : Addr) (xs : List Int32), lw_P b xs args s := by
  have hs := flat_of_before _ h
  have hq := flat_of_before _ hr
  have hc : (Cond.count 1).before args s = true := hs _ (by decide +kernel)
  have harr : (Cond.arrayOf (.arg 0) .int).before args s = true := hs _ (by decide +kernel)
  have hle : (Cond.le (.length (.arg 0)) (.int 288)).before args s = true := hs _ (by decide +kernel)
  have hlen : (Cond.isInt (.length (.arg 0))).before args s = true := hq _ (by decide +kernel)
  have hall : (Cond.all (.arg 0) (.isInt (.elem (.arg 0) (.index 0)))).before args s = true := hq _ (by decide +kernel)
  obtain ⟨b, xs, hb, hx⟩ := State.ints_of_pre rfl harr hlen hall
  have hsm : xs.length < 2 ^ 31 := hx.choose_spec.2.2.2
  have hev : (Term.length (.arg 0)).eval args s none [] s = some (.int xs.length.toInt32) := hx.length_eval hb
  have hv := Cond.le_ints hev (show (Term.int 288).eval args s none [] s = some (.int 288) from rfl)
  have hd : xs.length.toInt32 ≤ 288 := by
    simpa [Cond.before, Cond.holds, hv] using hle
  have hN : xs.length ≤ 288 := (Int32.ofNat_le_ofNat hsm (by decide)).mp (show Int32.ofNat xs.length ≤ Int32.ofNat 288 from hd)
  exact ⟨b, xs, Cond.one_arg hc (show args[0]? = some (.ref b) from hb), hx, hN, h⟩
theorem lw_comes (l : Launch) (hflags : l.flags = flags0) : Comes l x (Jvm.Cond.code x code maxLocals ret :: tables_1) room_1 (fun tb e args s => Calls_1 tb e args s ∧ rest_1 tb e args s ∧ Pre_1 tb e args s)
    (fun _ _ args s o t => lw_Q args s o t) := by
  intro p e ha hc hk s m args below hf hfit hheap happ hpre
  obtain ⟨b, xs, hP⟩ := lw_pre_spec hpre.2.2 hpre.2.1
  obtain ⟨k, o, h1, h2, h3, hQ⟩ := lw_walk l hflags b xs p e ha hc hk s m args below hf ((Spec.applies_iff_loose hf).mp happ).1 hP trivial
  exact ⟨k, o, h1, h2, h3, hQ⟩
theorem lw_frame {s t : State} {o : Outcome} {args : Array Value} (h : Framed s o t [] 600096 7301386) :
    Framed s o t (fieldLocs frame_1_writes args s ++ arrayLocs frame_1_arrays args s ++ staticLocs frame_1_statics s) 600096 7301386 := h
theorem lw_limb (L : Cond) (hL : ∀ (args : Array Value) (s t : State), L.after args s (.returned (some (.int 1))) t = true) :
    ArmFor flags0 classFile x code maxLocals ret World_1 tables_1 room_1 Calls_1 rest_1 Pre_1
      (fun tb e a s o t => postC L tb e a s o t ∧ Framed s o t (fieldLocs frame_1_writes a s ++ arrayLocs frame_1_arrays a s ++ staticLocs frame_1_statics s) 600096 7301386) := by
  intro l hflags _ _ p e ha hc hk s m args below hf hfit hheap happ hpre
  obtain ⟨k, o, h1, h2, h3, rfl, hF⟩ := lw_comes l hflags p e ha hc hk s m args below hf hfit hheap happ hpre
  exact ⟨k, _, h1, h2, h3, hL args s _, lw_frame hF⟩
theorem i_vc : Claimed_1_1 ∧ Claimed_1_2 := ⟨lw_limb limb_1_1 (fun args s t => by simp [limb_1_1, Cond.after, Cond.holds, Cond.value]), lw_limb limb_1_2 (fun args s t => Cond.after_iff.mpr (by
  first | (rw [show limb_1_2 = Cond.eq .result (.int 1) from rfl, Cond.eq_ints (x := 1) (y := 1) rfl rfl]; simp; done) | (simp [limb_1_2, Cond.value, Term.eval]; done)))⟩
end
