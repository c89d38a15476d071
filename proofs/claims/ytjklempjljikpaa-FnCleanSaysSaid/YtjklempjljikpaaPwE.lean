/- hertzproto.ZzPath: a path cleaned, as text. -/
import Derived.Test.YtjklempjljikpaaPwD
import Derived.Test.YtjklempjljikpaaSpNp
namespace Go.Proofs.Ytjklempjljikpaa.Q
open Go.RowKit Go.Proofs.YtjklempjljikpaaW.PrintWords Go.Proofs.YtjklempjljikpaaW.PrintLast Go.Proofs.YtjklempjljikpaaW.PrintMore
set_option linter.unusedVariables false
set_option linter.unusedSimpArgs false
open Go.Proofs.Ytjklempjljikpaa.SpA (toI toI_length toI_append norm lead dec)
set_option maxHeartbeats 8000000 in
set_option maxRecDepth 100000 in
theorem zzPath_calls (s : ByteArray) (w : World) (hl : s.size ≤ 2147483647) : Calls Try.prog 36 #[.string s] w fun e w' => e = .returned (.string ⟨(norm s.data.toList).toArray⟩) ∧ Below w.heap.size w w' := by
  obtain ⟨l, hll⟩ : ∃ l, l = s.data.toList := ⟨_, rfl⟩
  have hs : s.size = l.length := by rw [hll]; simp
  have hs2 : s.size = (toI l).length := by rw [toI_length, hs]
  obtain ⟨k, hk⟩ := SpA.dec_f (lead l) l (SpA.lead_len l) (by omega)
  have HD := Aside0.mk (hk k (Nat.le_refl k))
  have HN : Aside0 ((lead l ++ dec l).length ≤ 4611686018427387) := ⟨by have h1 := SpA.lead_len l; have h2 := SpA.dec_len l.length l (Nat.le_refl _); simp; omega⟩
  have HLL := Aside0.mk hll
  have HS2 := Aside0.mk hs2
  have HL : Aside0 (l.length ≤ 2147483647) := ⟨by omega⟩
  have HB := Aside0.mk (Below.refl w.heap.size w)
  clear hl hll hs hs2 hk
  go_enter Try.func36, Try.ntmps36
  go_wp2_with (first | (refine Go.Proofs.YtjklempjljikpaaX.convL_ (some 4) rfl rfl 9 48 _ rfl s rfl ?_; refine (conv_BR2 9 48 5 Try.underlying9 Try.underlying48 Try.underlying5 s _).mono ?_; rintro en w6 ⟨c6, rfl, hcc, hbr, hb⟩; rw [← HLL.out] at hbr; rw [HS2.out] at hcc; have HCC := Aside0.mk hcc; clear hcc; rw [HS2.out]; refine ⟨_, rfl, ?_⟩; have HR := Aside0.mk hbr; have n0_ := Aside0.mk (below_step HB.out hb); clear HB hbr hb; have HB := n0_; clear n0_) | ((with_reducible refine gate_callee (f := 49) rfl ?_); refine goesL_ (some 5) rfl rfl Try.func49 (by kernel_rfl) rfl #[.slice none 0 0, .slice (some ⟨_, 0, none⟩) (toI l).length _] rfl (by (try simp only [List.map_toArray, List.map_cons, List.map_nil]); first | done | rfl) ?_; refine (norm_calls k _ _ l (lead l) (lead l ++ dec l) _ (BR.C (p := []) (q := l) (HR.out.heap rfl) (by have := HL.out; simp; omega)) HCC.out (SpA.lead_f l) HD.out (SpA.lead_slash l) HN.out).mono ?_; rintro e w8 ⟨g, c, rfl, hbr, hb⟩; refine ⟨_, rfl, ?_⟩; have n0_ := Aside0.mk (below_step HB.out hb); clear HB; have HB := n0_; clear n0_; have hcv := And.intro (BR.back hbr 48 9 c Try.underlying48 Try.underlying5 Try.underlying9) (fun m => BR.back (hbr.drewN m) 48 9 c Try.underlying48 Try.underlying5 Try.underlying9); clear hbr hb))
  go_ret
  exact ⟨by rw [← HLL.out]; rfl, by repeat (first | (with_reducible first | exact HB.out | apply below_alloc | apply pw_below_drewN | apply below_drew1) | exact HB.out)⟩
end Go.Proofs.Ytjklempjljikpaa.Q
