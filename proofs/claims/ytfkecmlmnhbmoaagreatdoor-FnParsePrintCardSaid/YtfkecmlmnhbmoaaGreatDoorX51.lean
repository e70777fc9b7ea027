/- Parts R3. -/
import Derived.Test.YtfkecmlmnhbmoaaGreatDoorX50
set_option linter.unusedVariables false
set_option linter.unusedSimpArgs false
set_option maxRecDepth 100000
set_option maxHeartbeats 40000000
namespace Go.Proofs.YtfkecmlmnhbmoaaGreatDoor
open Go Go.RowKit
theorem c1I (os:Os):LaidIn Tryz.prog (witW os).memory [("math/bits.deBruijn32tab", Rows.laid_math_bits_deBruijn32tab)] [24] :=
 LaidIn.of_run _ 8 (by kernel_rfl) (by kernel_rfl) (by kernel_rfl) (by kernel_rfl)
theorem c1J (os:Os):LaidIn Tryz.prog (witW os).memory [("math/bits.deBruijn64tab", Rows.laid_math_bits_deBruijn64tab)] [25] :=
 LaidIn.of_run _ 8 (by kernel_rfl) (by kernel_rfl) (by kernel_rfl) (by kernel_rfl)
theorem c1K (os:Os):LaidIn Tryz.prog (witW os).memory [("internal/strconv.float32info", Rows.laid_internal_strconv_float32info)] [10] :=
 LaidIn.of_run _ 8 (by kernel_rfl) (by kernel_rfl) (by kernel_rfl) (by kernel_rfl)
theorem c1L (os:Os):LaidIn Tryz.prog (witW os).memory [("internal/strconv.float64info", Rows.laid_internal_strconv_float64info)] [11] :=
 LaidIn.of_run _ 8 (by kernel_rfl) (by kernel_rfl) (by kernel_rfl) (by kernel_rfl)
theorem c1M (os:Os):LaidIn Tryz.prog (witW os).memory [("internal/strconv.optimize", Rows.laid_internal_strconv_optimize)] [4] :=
 LaidIn.of_run _ 8 (by kernel_rfl) (by kernel_rfl) (by kernel_rfl) (by kernel_rfl)
theorem c1N (os:Os):LaidIn Tryz.prog (witW os).memory [("internal/strconv.powtab", Rows.laid_internal_strconv_powtab)] [19,34] :=
 LaidIn.of_run _ 8 (by kernel_rfl) (by kernel_rfl) (by kernel_rfl) (by kernel_rfl)
theorem c1O (os:Os):LaidIn Tryz.prog (witW os).memory [("internal/strconv.float64pow10", Rows.laid_internal_strconv_float64pow10)] [20,35] :=
 LaidIn.of_run _ 8 (by kernel_rfl) (by kernel_rfl) (by kernel_rfl) (by kernel_rfl)
theorem c1P (os:Os):LaidIn Tryz.prog (witW os).memory [("internal/strconv.float32pow10", Rows.laid_internal_strconv_float32pow10)] [18,36] :=
 LaidIn.of_run _ 8 (by kernel_rfl) (by kernel_rfl) (by kernel_rfl) (by kernel_rfl)
theorem c1Q (os:Os):LaidIn Tryz.prog (witW os).memory [("internal/strconv.uint64pow10", Rows.laid_internal_strconv_uint64pow10)] [12] :=
 LaidIn.of_run _ 8 (by kernel_rfl) (by kernel_rfl) (by kernel_rfl) (by kernel_rfl)
theorem c1R (os:Os):LaidIn Tryz.prog (witW os).memory [("unicode/utf8.acceptRanges", Rows.laid_unicode_utf8_acceptRanges)] [27] :=
 LaidIn.of_run _ 8 (by kernel_rfl) (by kernel_rfl) (by kernel_rfl) (by kernel_rfl)
theorem b8V (os:Os):LaidIn Tryz.prog (witW os).memory [("strconv.ErrRange", Rows.laid_strconv_ErrRange)] [3,37] :=
 LaidIn.of_run _ 8 (by kernel_rfl) (by kernel_rfl) (by kernel_rfl) (by kernel_rfl)
theorem b8W (os:Os):LaidIn Tryz.prog (witW os).memory [("strconv.ErrSyntax", Rows.laid_strconv_ErrSyntax)] [2,38] :=
 LaidIn.of_run _ 8 (by kernel_rfl) (by kernel_rfl) (by kernel_rfl) (by kernel_rfl)
theorem b8X (os:Os):LaidIn Tryz.prog (witW os).memory [("encoding/hex.ErrLength", Rows.laid_encoding_hex_ErrLength)] [23,39] :=
 LaidIn.of_run _ 8 (by kernel_rfl) (by kernel_rfl) (by kernel_rfl) (by kernel_rfl)
theorem b8Y (os:Os):LaidIn Tryz.prog (witW os).memory [("given.example/pub-foolscap/pub/pdfcpu/pkg/pdfcpu/model.ErrDictionaryCorrupt", Rows.laid_given_example_pub_foolscap_pub_pdfcpu_pkg_pdfcpu_model_ErrDictionaryCorrupt)] [14,40] :=
 LaidIn.of_run _ 8 (by kernel_rfl) (by kernel_rfl) (by kernel_rfl) (by kernel_rfl)
theorem b8Z (os:Os):LaidIn Tryz.prog (witW os).memory [("given.example/pub-foolscap/pub/pdfcpu/pkg/pdfcpu/model.errArrayCorrupt", Rows.laid_given_example_pub_foolscap_pub_pdfcpu_pkg_pdfcpu_model_errArrayCorrupt)] [6,41] :=
 LaidIn.of_run _ 8 (by kernel_rfl) (by kernel_rfl) (by kernel_rfl) (by kernel_rfl)
theorem b9a (os:Os):LaidIn Tryz.prog (witW os).memory [("given.example/pub-foolscap/pub/pdfcpu/pkg/pdfcpu/model.errArrayNotTerminated", Rows.laid_given_example_pub_foolscap_pub_pdfcpu_pkg_pdfcpu_model_errArrayNotTerminated)] [7,42] :=
 LaidIn.of_run _ 8 (by kernel_rfl) (by kernel_rfl) (by kernel_rfl) (by kernel_rfl)
theorem b9b (os:Os):LaidIn Tryz.prog (witW os).memory [("given.example/pub-foolscap/pub/pdfcpu/pkg/pdfcpu/model.errDictionaryNotTerminated", Rows.laid_given_example_pub_foolscap_pub_pdfcpu_pkg_pdfcpu_model_errDictionaryNotTerminated)] [15,43] :=
 LaidIn.of_run _ 8 (by kernel_rfl) (by kernel_rfl) (by kernel_rfl) (by kernel_rfl)
theorem b9c (os:Os):LaidIn Tryz.prog (witW os).memory [("given.example/pub-foolscap/pub/pdfcpu/pkg/pdfcpu/model.errHexLiteralCorrupt", Rows.laid_given_example_pub_foolscap_pub_pdfcpu_pkg_pdfcpu_model_errHexLiteralCorrupt)] [16,44] :=
 LaidIn.of_run _ 8 (by kernel_rfl) (by kernel_rfl) (by kernel_rfl) (by kernel_rfl)
theorem b9d (os:Os):LaidIn Tryz.prog (witW os).memory [("given.example/pub-foolscap/pub/pdfcpu/pkg/pdfcpu/model.errHexLiteralNotTerminated", Rows.laid_given_example_pub_foolscap_pub_pdfcpu_pkg_pdfcpu_model_errHexLiteralNotTerminated)] [17,45] :=
 LaidIn.of_run _ 8 (by kernel_rfl) (by kernel_rfl) (by kernel_rfl) (by kernel_rfl)
theorem b9e (os:Os):LaidIn Tryz.prog (witW os).memory [("given.example/pub-foolscap/pub/pdfcpu/pkg/pdfcpu/model.errNameObjectCorrupt", Rows.laid_given_example_pub_foolscap_pub_pdfcpu_pkg_pdfcpu_model_errNameObjectCorrupt)] [8,46] :=
 LaidIn.of_run _ 8 (by kernel_rfl) (by kernel_rfl) (by kernel_rfl) (by kernel_rfl)
theorem b9f (os:Os):LaidIn Tryz.prog (witW os).memory [("given.example/pub-foolscap/pub/pdfcpu/pkg/pdfcpu/model.errNoArray", Rows.laid_given_example_pub_foolscap_pub_pdfcpu_pkg_pdfcpu_model_errNoArray)] [5,47] :=
 LaidIn.of_run _ 8 (by kernel_rfl) (by kernel_rfl) (by kernel_rfl) (by kernel_rfl)
theorem b9g (os:Os):LaidIn Tryz.prog (witW os).memory [("given.example/pub-foolscap/pub/pdfcpu/pkg/pdfcpu/model.errNoDictionary", Rows.laid_given_example_pub_foolscap_pub_pdfcpu_pkg_pdfcpu_model_errNoDictionary)] [13,48] :=
 LaidIn.of_run _ 8 (by kernel_rfl) (by kernel_rfl) (by kernel_rfl) (by kernel_rfl)
theorem b9h (os:Os):LaidIn Tryz.prog (witW os).memory [("given.example/pub-foolscap/pub/pdfcpu/pkg/pdfcpu/model.errStringLiteralCorrupt", Rows.laid_given_example_pub_foolscap_pub_pdfcpu_pkg_pdfcpu_model_errStringLiteralCorrupt)] [9,49] :=
 LaidIn.of_run _ 8 (by kernel_rfl) (by kernel_rfl) (by kernel_rfl) (by kernel_rfl)
theorem b9i (os:Os):LaidIn Tryz.prog (witW os).memory [("given.example/pub-foolscap/pub/pdfcpu/pkg/pdfcpu/model.errBufNotAvailable", Rows.laid_given_example_pub_foolscap_pub_pdfcpu_pkg_pdfcpu_model_errBufNotAvailable)] [0,50] :=
 LaidIn.of_run _ 8 (by kernel_rfl) (by kernel_rfl) (by kernel_rfl) (by kernel_rfl)
theorem b9j (os:Os):LaidIn Tryz.prog (witW os).memory [("given.example/pub-foolscap/pub/pdfcpu/pkg/pdfcpu/model.ErrMaxRecursionDepthExceeded", Rows.laid_given_example_pub_foolscap_pub_pdfcpu_pkg_pdfcpu_model_ErrMaxRecursionDepthExceeded)] [1,51] :=
 LaidIn.of_run _ 8 (by kernel_rfl) (by kernel_rfl) (by kernel_rfl) (by kernel_rfl)
theorem b9k (os:Os):LaidIn Tryz.prog (witW os).memory [("internal/strconv.leftcheats", Go.Pinned.leftcheats)] [22,52] :=
 LaidIn.of_run _ 8 (by kernel_rfl) (by kernel_rfl) (by kernel_rfl) (by kernel_rfl)
theorem b9l (os:Os):LaidIn Tryz.prog (witW os).memory [("internal/strconv.pow10Tab", Go.Pinned.pow10Tab)] [21]:=by
 have hh:(witW os).memory.heap[21]?=some (.cells (a1l Go.Pinned.pow10Tab).toArray 282 (0,0)):=by kernel_rfl
 have hv:(witW os).memory.var? Tryz.prog "internal/strconv.pow10Tab" = some (a1l Go.Pinned.pow10Tab).toArray:=by
  unfold World.var?;rw[show Tryz.prog.globalNamed "internal/strconv.pow10Tab" = some 21 by kernel_rfl];simp only[Option.bind_some,hh]
 have hr:DataW.trod (fun _=>()) Tryz.prog (witW os).memory 0 (fun _=>true) false 4 282 (a1l Go.Pinned.pow10Tab)=some (Go.Pinned.pow10Tab,[]):=by kernel_rfl
 refine LaidIn.one (g:=21) (t:=282) [21] (by kernel_rfl) (by kernel_rfl) hv (by simpa using hr) ?_ ?_ ?_
 ·simpa using rowP_nodup ⟨21,0,none⟩ _
 ·intro b off hp
  rw[List.append_nil]at hp;obtain⟨i,hi,e'⟩:=MemPlace.mem_row.1 hp
  cases e'
  refine⟨⟨_,_,hh⟩,fun u v hc'=>?_⟩
  exact absurd hc' (by
   have hall:((a1l Go.Pinned.pow10Tab).all fun c=>match c with | .iface _ _=>false|_=>true)=true:=by kernel_rfl
   intro hc';simp only[World.cell?,hh,Nat.zero_add]at hc';have hm:Value.iface u v∈a1l Go.Pinned.pow10Tab:=List.mem_of_getElem? (by simpa using hc');have:=List.all_eq_true.1 hall _ hm
   simp at this)
 ·intro x hx
  rw[List.append_nil]at hx;obtain⟨i,hi,e'⟩:=MemPlace.mem_row.1 hx
  cases e'
  exact List.mem_singleton.2 rfl
theorem b9m (os:Os):LaidIn Tryz.prog (witW os).memory [("unicode/utf8.first", Go.Pinned.utf8First)] [26] :=
 LaidIn.of_run _ 8 (by kernel_rfl) (by kernel_rfl) (by kernel_rfl) (by kernel_rfl)
theorem b0y (os:Os):laidMet Tryz.prog Rows.fnParseRow.laid (witW os).memory :=
 LaidIn.met ((c1I os).append ((c1J os).append ((c1K os).append ((c1L os).append ((c1M os).append ((c1N os).append ((c1O os).append ((c1P os).append ((c1Q os).append ((c1R os).append ((b8V os).append ((b8W os).append ((b8X os).append ((b8Y os).append ((b8Z os).append ((b9a os).append ((b9b os).append ((b9c os).append ((b9d os).append ((b9e os).append ((b9f os).append ((b9g os).append ((b9h os).append ((b9i os).append ((b9j os).append ((b9k os).append ((b9l os).append (b9m os) (by decide)) (by decide)) (by decide)) (by decide)) (by decide)) (by decide)) (by decide)) (by decide)) (by decide)) (by decide)) (by decide)) (by decide)) (by decide)) (by decide)) (by decide)) (by decide)) (by decide)) (by decide)) (by decide)) (by decide)) (by decide)) (by decide)) (by decide)) (by decide)) (by decide)) (by decide)) (by decide))
end Go.Proofs.YtfkecmlmnhbmoaaGreatDoor
